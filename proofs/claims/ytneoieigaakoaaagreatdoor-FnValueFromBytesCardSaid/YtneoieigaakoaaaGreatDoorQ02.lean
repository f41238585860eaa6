/- The proof of laws.FnValueFromBytes: a value of a kind is read from any bytes as the rules of its kind say, or refused; what is too great is told so. Conditions: those of the given row (the listed variables read as laid). -/
import Derived.Test.YtneoieigaakoaaaGreatDoorQ01
import Derived.Test.YtneoieigaakoaaaGreatDoorProg
set_option linter.unusedVariables false
set_option linter.unusedSimpArgs false
section
namespace Go.Proofs.YtneoieigaakoaaaGreatDoor.pf
open Go.RowKit Go.Proofs.HHW Go.Proofs.YtneoieigaakoaaaGreatDoorW.PrintWords
namespace sm
theorem lower_ (wb w0 : World) (B : Nat) (L0 : List (Nat × Obj)) (x : Int) (H : HH B wb w0 L0) : Calls Tryz.prog 66 #[.int .u8 x] w0 fun e w' => e = .returned (.int .u8 (lw x)) ∧ HH B wb w' L0 := by
 refine c_enter (args := [.int .u8 x]) (k := 4) Tryz.func66 rfl rfl rfl (fun a S => ?_)
 refine wp_seq ?_
 refine c_region ?_
 refine l_mv 1 S rfl ?_; clear S a; intro a S
 refine l_nil ?_
 refine e_then ?_
 refine wp_seq ?_
 refine c_region ?_
 refine l_mv 1 S rfl ?_; clear S a; intro a S
 refine l_pure S (p_or (r := lw x) rfl rfl rfl) rfl rfl rfl ?_; clear S a; intro a S
 refine l_mv 1 S rfl ?_; clear S a; intro a S
 refine l_nil ?_
 refine e_then ?_
 refine wp_ret ?_
 exact r_ret1 S rfl rfl ⟨rfl, H⟩
def uOK3 (s : ByteArray) (saw : Int) : Bool := (saw != 95)
def uOKl (s : ByteArray) : Nat → ByteArray → Int → Int → Bool → Bool
 | 0, _, _, _, _ => default
 | fu + 1, z, saw, i, hex => (bif (decide (i < ((z.size : Nat) : Int))) then (bif (decide (48 ≤ (HHW.bt z i))) then (bif (decide ((HHW.bt z i) ≤ 57)) then uOKl s fu z 48 (i + 1) hex else (bif hex then (bif (decide (97 ≤ (lw (HHW.bt z i)))) then (bif (decide ((lw (HHW.bt z i)) ≤ 102)) then uOKl s fu z 48 (i + 1) hex else (bif ((HHW.bt z i) == 95) then (bif (saw != 48) then false else uOKl s fu z 95 (i + 1) hex) else (bif (saw == 95) then false else uOKl s fu z 33 (i + 1) hex))) else (bif ((HHW.bt z i) == 95) then (bif (saw != 48) then false else uOKl s fu z 95 (i + 1) hex) else (bif (saw == 95) then false else uOKl s fu z 33 (i + 1) hex))) else (bif ((HHW.bt z i) == 95) then (bif (saw != 48) then false else uOKl s fu z 95 (i + 1) hex) else (bif (saw == 95) then false else uOKl s fu z 33 (i + 1) hex)))) else (bif hex then (bif (decide (97 ≤ (lw (HHW.bt z i)))) then (bif (decide ((lw (HHW.bt z i)) ≤ 102)) then uOKl s fu z 48 (i + 1) hex else (bif ((HHW.bt z i) == 95) then (bif (saw != 48) then false else uOKl s fu z 95 (i + 1) hex) else (bif (saw == 95) then false else uOKl s fu z 33 (i + 1) hex))) else (bif ((HHW.bt z i) == 95) then (bif (saw != 48) then false else uOKl s fu z 95 (i + 1) hex) else (bif (saw == 95) then false else uOKl s fu z 33 (i + 1) hex))) else (bif ((HHW.bt z i) == 95) then (bif (saw != 48) then false else uOKl s fu z 95 (i + 1) hex) else (bif (saw == 95) then false else uOKl s fu z 33 (i + 1) hex)))) else uOK3 s saw)
def uOK2 (s : ByteArray) (z : ByteArray) (saw : Int) (i : Int) (hex : Bool) : Bool := uOKl s ((((z.size : Int) - i).toNat) + 1) z saw i hex
def uOK1 (s : ByteArray) (z : ByteArray) : Bool := (bif (decide (((z.size : Nat) : Int) ≥ 2)) then (bif ((HHW.bt z 0) == 48) then (bif ((lw (HHW.bt z 1)) == 98) then uOK2 s z 48 2 ((lw (HHW.bt z 1)) == 120) else (bif ((lw (HHW.bt z 1)) == 111) then uOK2 s z 48 2 ((lw (HHW.bt z 1)) == 120) else (bif ((lw (HHW.bt z 1)) == 120) then uOK2 s z 48 2 ((lw (HHW.bt z 1)) == 120) else uOK2 s z 94 0 false))) else uOK2 s z 94 0 false) else uOK2 s z 94 0 false)
def uOK (s : ByteArray) : Bool := (bif (decide (((s.size : Nat) : Int) ≥ 1)) then (bif ((HHW.bt s 0) == 45) then uOK1 s (s.extract (1 : Int).toNat s.size) else (bif ((HHW.bt s 0) == 43) then uOK1 s (s.extract (1 : Int).toNat s.size) else uOK1 s s)) else uOK1 s s)
set_option maxHeartbeats 2000000 in
theorem uOK_ (wb w0 : World) (B : Nat) (L0 : List (Nat × Obj)) (s : ByteArray) (hs : s.size ≤ 1000000000) (H : HH B wb w0 L0) : Calls Tryz.prog 67 #[.string s] w0 fun e w' => e = .returned (.bool (uOK s)) ∧ HH B wb w' L0 := by
 generalize hR : uOK s = R
 refine c_enter (args := [.string s]) (k := 93) Tryz.func67 rfl rfl rfl (fun a S => ?_)
 refine wp_seq ?_
 refine c_region ?_
 refine l_mv 1 S rfl ?_; clear S a; intro a S
 refine l_nil ?_
 refine e_then ?_
 refine wp_seq ?_
 refine c_region ?_
 refine l_mv 1 S rfl ?_; clear S a; intro a S
 refine l_nil ?_
 refine e_then ?_
 refine wp_seq ?_
 refine c_region ?_
 refine l_mv 1 S rfl ?_; clear S a; intro a S
 refine l_nil ?_
 refine e_then ?_
 refine c_cut (fun a w => ∃ z : ByteArray, SL a 94 [] [(3, .int .i32 94), (4, .int .i64 0), (2, .bool false), (0, .string z)] ∧ HH B wb w (L0) ∧ uOK1 s z = R ∧ (z.size ≤ 1000000000)) ?_ ?_
 ·
  clear S a H hR; rintro a w ⟨z, S, H, hR, hinv⟩
  have hz := hinv
  refine wp_seq ?_
  refine c_region ?_
  refine l_mv 1 S rfl ?_; clear S a; intro a S
  refine l_nil ?_
  refine e_then ?_
  refine c_cut (fun a w => ∃ z : ByteArray, ∃ saw : Int, ∃ i : Int, ∃ hex : Bool, SL a 94 [] [(0, .string z), (3, .int .i32 saw), (4, .int .i64 i), (5, .bool hex)] ∧ HH B wb w (L0) ∧ uOK2 s z saw i hex = R ∧ (z.size ≤ 1000000000 ∧ 0 ≤ i)) ?_ ?_
  ·
   clear S a H hR; rintro a w ⟨z, saw, i, hex, S, H, hR, hinv⟩
   obtain ⟨hz, hi⟩ := hinv
   refine c_cut (fun a w => ∃ saw : Int, SL a 94 [] [(3, .int .i32 saw)] ∧ HH B wb w (L0) ∧ uOK3 s saw = R) ?_ ?_
   ·
    clear S a H hR; rintro a w ⟨saw, S, H, hR⟩
    refine wp_seq ?_
    refine c_region ?_
    refine l_mv 1 S rfl ?_; clear S a; intro a S
    refine l_pure S (p_neq rfl rfl) rfl rfl rfl ?_; clear S a; intro a S
    refine l_mv 1 S rfl ?_; clear S a; intro a S
    refine l_nil ?_
    refine e_then ?_
    refine wp_ret ?_
    have eR : R = (saw != 95) := by rw [← hR]; simp only [uOK3, cond_true, cond_false]
    clear hR; subst eR
    exact r_ret1 S rfl rfl ⟨rfl, H⟩
   ·
    refine wp_block ?_
    refine c_loop (σ := Nat × ByteArray × Int × Int × Bool) (fun s_ a w => match s_ with | (k_, z, saw, i, hex) => SL a 94 [] [(0, .string z), (3, .int .i32 saw), (4, .int .i64 i), (5, .bool hex)] ∧ HH B wb w (L0) ∧ (uOKl s k_ z saw i hex = R ∧ ((z.size : Int) - i).toNat < k_ ∧ (z.size ≤ 1000000000 ∧ 0 ≤ i))) (fun s_ => s_.1) ((((z.size : Int) - i).toNat) + 1, z, saw, i, hex) ⟨S.only ⟨rfl, rfl, rfl, rfl, trivial⟩, H, by rw [← hR]; simp only [uOK2, cond_true, cond_false], by omega, ⟨hz, hi⟩⟩ ?_
    clear S a H hR; rintro ⟨fu, z, saw, i, hex⟩ a w ⟨S, H, hR, hk, hinv⟩
    obtain ⟨fu, rfl⟩ : ∃ j, fu = j + 1 := ⟨fu - 1, by omega⟩
    obtain ⟨hz, hi⟩ := hinv
    refine wp_seq ?_
    refine wp_seq ?_
    refine c_region ?_
    refine l_mv 2 S rfl ?_; clear S a; intro a S
    refine l_pure S (p_lens Tryz.underlying9 rfl) rfl rfl rfl ?_; clear S a; intro a S
    refine l_pure S (p_lss rfl rfl) rfl rfl rfl ?_; clear S a; intro a S
    refine l_nil ?_
    refine e_then ?_
    refine c_cond S rfl (fun bc5 => ?_) (fun bc5 => ?_)
    ·
     have c5 := bc5
     have c5 := of_decide_eq_true c5
     refine wp_skip ?_
     refine e_then ?_
     refine wp_seq ?_
     refine wp_block ?_
     refine wp_seq ?_
     refine wp_seq ?_
     refine c_region ?_
     refine l_mv 2 S rfl ?_; clear S a; intro a S
     refine l_pure S (p_index rfl rfl (fun w => ix_string Tryz.underlying9 (by omega) (by omega))) rfl rfl rfl ?_; clear S a; intro a S
     have := bt_rng z i
     refine l_pure S (p_leq rfl rfl) rfl rfl rfl ?_; clear S a; intro a S
     refine l_mv 1 S rfl ?_; clear S a; intro a S
     refine l_split (S.of 61 rfl) (fun bc7 => ?_) (fun bc7 => ?_)
     ·
      have c7 := bc7
      have c7 := of_decide_eq_true c7
      refine l_on S rfl rfl rfl rfl bc7 ?_
      refine l_pure S (p_move rfl) rfl rfl rfl ?_; clear S a; intro a S
      refine l_on S rfl rfl rfl rfl bc7 ?_
      refine l_pure S (p_move rfl) rfl rfl rfl ?_; clear S a; intro a S
      refine l_on S rfl rfl rfl rfl bc7 ?_
      refine l_pure S (p_index rfl rfl (fun w => ix_string Tryz.underlying9 (by omega) (by omega))) rfl rfl rfl ?_; clear S a; intro a S
      have := bt_rng z i
      refine l_on S rfl rfl rfl rfl bc7 ?_
      refine l_pure S (p_leq rfl rfl) rfl rfl rfl ?_; clear S a; intro a S
      refine l_pure S (p_pick_t rfl bc7 rfl) rfl rfl rfl ?_; clear S a; intro a S
      refine l_mv 1 S rfl ?_; clear S a; intro a S
      refine l_split (S.of 67 rfl) (fun bc9 => ?_) (fun bc9 => ?_)
      ·
       have c9 := bc9
       have c9 := of_decide_eq_true c9
       refine l_off S rfl rfl rfl rfl bc9 rfl rfl ?_; clear S a; intro a S
       refine l_off S rfl rfl rfl rfl bc9 rfl rfl ?_; clear S a; intro a S
       refine l_offU S rfl rfl rfl rfl rfl rfl ?_; clear S a; intro a S
       refine l_offU S rfl rfl rfl rfl rfl rfl ?_; clear S a; intro a S
       refine l_offU S rfl rfl rfl rfl rfl rfl ?_; clear S a; intro a S
       refine l_offU S rfl rfl rfl rfl rfl rfl ?_; clear S a; intro a S
       refine l_offU S rfl rfl rfl rfl rfl rfl ?_; clear S a; intro a S
       refine l_off S rfl rfl rfl rfl bc9 rfl rfl ?_; clear S a; intro a S
       refine l_off S rfl rfl rfl rfl bc9 rfl rfl ?_; clear S a; intro a S
       refine l_offU S rfl rfl rfl rfl rfl rfl ?_; clear S a; intro a S
       refine l_offU S rfl rfl rfl rfl rfl rfl ?_; clear S a; intro a S
       refine l_offU S rfl rfl rfl rfl rfl rfl ?_; clear S a; intro a S
       refine l_offU S rfl rfl rfl rfl rfl rfl ?_; clear S a; intro a S
       refine l_offU S rfl rfl rfl rfl rfl rfl ?_; clear S a; intro a S
       refine l_off S rfl rfl rfl rfl bc9 rfl rfl ?_; clear S a; intro a S
       refine l_pure S (p_pick_t rfl bc9 rfl) rfl rfl rfl ?_; clear S a; intro a S
       refine l_nil ?_
       refine e_then ?_
       refine c_cond (b := true) S rfl (fun _ => ?_) (fun h => by cases h)
       refine wp_seq ?_
       refine c_region ?_
       refine l_mv 1 S rfl ?_; clear S a; intro a S
       refine l_nil ?_
       refine e_then ?_
       refine wp_exit ?_
       refine e_then_exit ?_
       refine e_in_exit ?_
       refine e_then ?_
       refine c_region ?_
       refine l_mv 1 S rfl ?_; clear S a; intro a S
       refine l_pure S (p_add (r := (i + 1)) rfl rfl (IntWalk.i64_in _ (by omega))) rfl rfl rfl ?_; clear S a; intro a S
       refine l_mv 1 S rfl ?_; clear S a; intro a S
       refine l_nil ?_
       refine e_then ?_
       exact ⟨(fu, z, 48, (i + 1), hex), ⟨S.only ⟨rfl, rfl, rfl, rfl, trivial⟩, H, by rw [← hR]; simp only [uOKl, bc5, bc7, bc9, cond_true, cond_false], by omega, ⟨hz, by omega⟩⟩, Nat.lt_succ_self fu⟩
      ·
       have c9 := bc9
       have c9 := of_decide_eq_false c9
       refine l_on S rfl rfl rfl rfl bc9 ?_
       refine l_pure S (p_move rfl) rfl rfl rfl ?_; clear S a; intro a S
       refine l_on S rfl rfl rfl rfl bc9 ?_
       refine l_pure S (p_move rfl) rfl rfl rfl ?_; clear S a; intro a S
       refine l_split (S.of 69 rfl) (fun bc13 => ?_) (fun bc13 => ?_)
       ·
        refine l_on S rfl rfl rfl rfl bc13 ?_
        refine l_pure S (p_move rfl) rfl rfl rfl ?_; clear S a; intro a S
        refine l_on S rfl rfl rfl rfl bc13 ?_
        refine l_pure S (p_move rfl) rfl rfl rfl ?_; clear S a; intro a S
        refine l_on S rfl rfl rfl rfl bc13 ?_
        refine l_pure S (p_index rfl rfl (fun w => ix_string Tryz.underlying9 (by omega) (by omega))) rfl rfl rfl ?_; clear S a; intro a S
        have := bt_rng z i
        refine l_on S rfl rfl rfl rfl bc13 ?_
        have := lw_range (HHW.bt z i) (by omega)
        have hcon := sm.lower_ wb _ B _ (HHW.bt z i) H
        refine l_call S rfl rfl Tryz.func66 rfl rfl (hcon) rfl rfl rfl ?_
        rintro e w ⟨rfl, hH⟩
        refine ⟨_, rfl, ?_⟩; clear S a; intro a S
        clear H hcon; have H := hH; clear hH
        refine l_on S rfl rfl rfl rfl bc13 ?_
        refine l_pure S (p_leq rfl rfl) rfl rfl rfl ?_; clear S a; intro a S
        refine l_on S rfl rfl rfl rfl bc9 ?_
        refine l_pure S (p_pick_t rfl bc13 rfl) rfl rfl rfl ?_; clear S a; intro a S
        refine l_on S rfl rfl rfl rfl bc9 ?_
        refine l_pure S (p_move rfl) rfl rfl rfl ?_; clear S a; intro a S
        refine l_split (S.of 76 rfl) (fun bc15 => ?_) (fun bc15 => ?_)
        ·
         have c15 := bc15
         have c15 := of_decide_eq_true c15
         refine l_on S rfl rfl rfl rfl bc15 ?_
         refine l_pure S (p_move rfl) rfl rfl rfl ?_; clear S a; intro a S
         refine l_on S rfl rfl rfl rfl bc15 ?_
         refine l_pure S (p_move rfl) rfl rfl rfl ?_; clear S a; intro a S
         refine l_on S rfl rfl rfl rfl bc15 ?_
         refine l_pure S (p_index rfl rfl (fun w => ix_string Tryz.underlying9 (by omega) (by omega))) rfl rfl rfl ?_; clear S a; intro a S
         have := bt_rng z i
         refine l_on S rfl rfl rfl rfl bc15 ?_
         have := lw_range (HHW.bt z i) (by omega)
         have hcon := sm.lower_ wb _ B _ (HHW.bt z i) H
         refine l_call S rfl rfl Tryz.func66 rfl rfl (hcon) rfl rfl rfl ?_
         rintro e w ⟨rfl, hH⟩
         refine ⟨_, rfl, ?_⟩; clear S a; intro a S
         clear H hcon; have H := hH; clear hH
         refine l_on S rfl rfl rfl rfl bc15 ?_
         refine l_pure S (p_leq rfl rfl) rfl rfl rfl ?_; clear S a; intro a S
         refine l_on S rfl rfl rfl rfl bc9 ?_
         refine l_pure S (p_pick_t rfl bc15 rfl) rfl rfl rfl ?_; clear S a; intro a S
         refine l_pure S (p_pick_f rfl bc9 rfl) rfl rfl rfl ?_; clear S a; intro a S
         refine l_nil ?_
         refine e_then ?_
         refine c_cond S rfl (fun bc17 => ?_) (fun bc17 => ?_)
         ·
          have c17 := bc17
          have c17 := of_decide_eq_true c17
          refine wp_seq ?_
          refine c_region ?_
          refine l_mv 1 S rfl ?_; clear S a; intro a S
          refine l_nil ?_
          refine e_then ?_
          refine wp_exit ?_
          refine e_then_exit ?_
          refine e_in_exit ?_
          refine e_then ?_
          refine c_region ?_
          refine l_mv 1 S rfl ?_; clear S a; intro a S
          refine l_pure S (p_add (r := (i + 1)) rfl rfl (IntWalk.i64_in _ (by omega))) rfl rfl rfl ?_; clear S a; intro a S
          refine l_mv 1 S rfl ?_; clear S a; intro a S
          refine l_nil ?_
          refine e_then ?_
          exact ⟨(fu, z, 48, (i + 1), hex), ⟨S.only ⟨rfl, rfl, rfl, rfl, trivial⟩, H, by rw [← hR]; simp only [uOKl, bc5, bc7, bc9, bc13, bc15, bc17, cond_true, cond_false], by omega, ⟨hz, by omega⟩⟩, Nat.lt_succ_self fu⟩
         ·
          have c17 := bc17
          have c17 := of_decide_eq_false c17
          refine wp_skip ?_
          refine e_then ?_
          refine wp_seq ?_
          refine wp_seq ?_
          refine c_region ?_
          refine l_mv 2 S rfl ?_; clear S a; intro a S
          refine l_pure S (p_index rfl rfl (fun w => ix_string Tryz.underlying9 (by omega) (by omega))) rfl rfl rfl ?_; clear S a; intro a S
          have := bt_rng z i
          refine l_pure S (p_eql rfl rfl) rfl rfl rfl ?_; clear S a; intro a S
          refine l_nil ?_
          refine e_then ?_
          refine c_cond S rfl (fun bc19 => ?_) (fun bc19 => ?_)
          ·
           have c19 := bc19
           have c19 := eq_of_beq c19
           refine wp_seq ?_
           refine wp_seq ?_
           refine c_region ?_
           refine l_mv 1 S rfl ?_; clear S a; intro a S
           refine l_pure S (p_neq rfl rfl) rfl rfl rfl ?_; clear S a; intro a S
           refine l_nil ?_
           refine e_then ?_
           refine c_cond S rfl (fun bc21 => ?_) (fun bc21 => ?_)
           ·
            have c21 := bc21
            have c21 := bne_iff_ne.1 c21
            refine wp_seq ?_
            refine c_region ?_
            refine l_mv 1 S rfl ?_; clear S a; intro a S
            refine l_nil ?_
            refine e_then ?_
            refine wp_ret ?_
            refine e_then_ret ?_
            refine e_then_ret ?_
            refine e_in_ret ?_
            refine e_then_ret ?_
            refine e_then_ret ?_
            refine e_in_ret ?_
            refine e_then_ret ?_
            have eR : R = false := by rw [← hR]; simp only [uOKl, bc5, bc7, bc9, bc13, bc15, bc17, bc19, bc21, cond_true, cond_false]
            clear hR; subst eR
            exact r_ret1 S rfl rfl ⟨rfl, H⟩
           ·
            have c21 := bc21
            have c21 := bne_eq_false_iff_eq.1 c21
            refine wp_skip ?_
            refine e_then ?_
            refine wp_seq ?_
            refine c_region ?_
            refine l_mv 1 S rfl ?_; clear S a; intro a S
            refine l_nil ?_
            refine e_then ?_
            refine wp_exit ?_
            refine e_then_exit ?_
            refine e_in_exit ?_
            refine e_then ?_
            refine c_region ?_
            refine l_mv 1 S rfl ?_; clear S a; intro a S
            refine l_pure S (p_add (r := (i + 1)) rfl rfl (IntWalk.i64_in _ (by omega))) rfl rfl rfl ?_; clear S a; intro a S
            refine l_mv 1 S rfl ?_; clear S a; intro a S
            refine l_nil ?_
            refine e_then ?_
            exact ⟨(fu, z, 95, (i + 1), hex), ⟨S.only ⟨rfl, rfl, rfl, rfl, trivial⟩, H, by rw [← hR]; simp only [uOKl, bc5, bc7, bc9, bc13, bc15, bc17, bc19, bc21, cond_true, cond_false], by omega, ⟨hz, by omega⟩⟩, Nat.lt_succ_self fu⟩
          ·
           have c19 := bc19
           have c19 := ne_of_beq_false c19
           refine wp_skip ?_
           refine e_then ?_
           refine wp_seq ?_
           refine wp_seq ?_
           refine c_region ?_
           refine l_mv 1 S rfl ?_; clear S a; intro a S
           refine l_pure S (p_eql rfl rfl) rfl rfl rfl ?_; clear S a; intro a S
           refine l_nil ?_
           refine e_then ?_
           refine c_cond S rfl (fun bc24 => ?_) (fun bc24 => ?_)
           ·
            have c24 := bc24
            have c24 := eq_of_beq c24
            refine wp_seq ?_
            refine c_region ?_
            refine l_mv 1 S rfl ?_; clear S a; intro a S
            refine l_nil ?_
            refine e_then ?_
            refine wp_ret ?_
            refine e_then_ret ?_
            refine e_in_ret ?_
            refine e_then_ret ?_
            refine e_then_ret ?_
            refine e_in_ret ?_
            refine e_then_ret ?_
            have eR : R = false := by rw [← hR]; simp only [uOKl, bc5, bc7, bc9, bc13, bc15, bc17, bc19, bc24, cond_true, cond_false]
            clear hR; subst eR
            exact r_ret1 S rfl rfl ⟨rfl, H⟩
           ·
            have c24 := bc24
            have c24 := ne_of_beq_false c24
            refine wp_skip ?_
            refine e_then ?_
            refine c_region ?_
            refine l_mv 1 S rfl ?_; clear S a; intro a S
            refine l_nil ?_
            refine e_in 1 ?_
            refine e_then ?_
            refine c_region ?_
            refine l_mv 1 S rfl ?_; clear S a; intro a S
            refine l_pure S (p_add (r := (i + 1)) rfl rfl (IntWalk.i64_in _ (by omega))) rfl rfl rfl ?_; clear S a; intro a S
            refine l_mv 1 S rfl ?_; clear S a; intro a S
            refine l_nil ?_
            refine e_then ?_
            exact ⟨(fu, z, 33, (i + 1), hex), ⟨S.only ⟨rfl, rfl, rfl, rfl, trivial⟩, H, by rw [← hR]; simp only [uOKl, bc5, bc7, bc9, bc13, bc15, bc17, bc19, bc24, cond_true, cond_false], by omega, ⟨hz, by omega⟩⟩, Nat.lt_succ_self fu⟩
        ·
         have c15 := bc15
         have c15 := of_decide_eq_false c15
         refine l_off S rfl rfl rfl rfl bc15 rfl rfl ?_; clear S a; intro a S
         refine l_off S rfl rfl rfl rfl bc15 rfl rfl ?_; clear S a; intro a S
         refine l_off S rfl rfl rfl rfl bc15 rfl rfl ?_; clear S a; intro a S
         refine l_off S rfl rfl rfl rfl bc15 rfl rfl ?_; clear S a; intro a S
         refine l_off S rfl rfl rfl rfl bc15 rfl rfl ?_; clear S a; intro a S
         refine l_on S rfl rfl rfl rfl bc9 ?_
         refine l_pure S (p_pick_f rfl bc15 rfl) rfl rfl rfl ?_; clear S a; intro a S
         refine l_pure S (p_pick_f rfl bc9 rfl) rfl rfl rfl ?_; clear S a; intro a S
         refine l_nil ?_
         refine e_then ?_
         refine c_cond (b := false) S rfl (fun h => by cases h) (fun _ => ?_)
         refine wp_skip ?_
         refine e_then ?_
         refine wp_seq ?_
         refine wp_seq ?_
         refine c_region ?_
         refine l_mv 2 S rfl ?_; clear S a; intro a S
         refine l_pure S (p_index rfl rfl (fun w => ix_string Tryz.underlying9 (by omega) (by omega))) rfl rfl rfl ?_; clear S a; intro a S
         have := bt_rng z i
         refine l_pure S (p_eql rfl rfl) rfl rfl rfl ?_; clear S a; intro a S
         refine l_nil ?_
         refine e_then ?_
         refine c_cond S rfl (fun bc29 => ?_) (fun bc29 => ?_)
         ·
          have c29 := bc29
          have c29 := eq_of_beq c29
          refine wp_seq ?_
          refine wp_seq ?_
          refine c_region ?_
          refine l_mv 1 S rfl ?_; clear S a; intro a S
          refine l_pure S (p_neq rfl rfl) rfl rfl rfl ?_; clear S a; intro a S
          refine l_nil ?_
          refine e_then ?_
          refine c_cond S rfl (fun bc31 => ?_) (fun bc31 => ?_)
          ·
           have c31 := bc31
           have c31 := bne_iff_ne.1 c31
           refine wp_seq ?_
           refine c_region ?_
           refine l_mv 1 S rfl ?_; clear S a; intro a S
           refine l_nil ?_
           refine e_then ?_
           refine wp_ret ?_
           refine e_then_ret ?_
           refine e_then_ret ?_
           refine e_in_ret ?_
           refine e_then_ret ?_
           refine e_then_ret ?_
           refine e_in_ret ?_
           refine e_then_ret ?_
           have eR : R = false := by rw [← hR]; simp only [uOKl, bc5, bc7, bc9, bc13, bc15, bc29, bc31, cond_true, cond_false]
           clear hR; subst eR
           exact r_ret1 S rfl rfl ⟨rfl, H⟩
          ·
           have c31 := bc31
           have c31 := bne_eq_false_iff_eq.1 c31
           refine wp_skip ?_
           refine e_then ?_
           refine wp_seq ?_
           refine c_region ?_
           refine l_mv 1 S rfl ?_; clear S a; intro a S
           refine l_nil ?_
           refine e_then ?_
           refine wp_exit ?_
           refine e_then_exit ?_
           refine e_in_exit ?_
           refine e_then ?_
           refine c_region ?_
           refine l_mv 1 S rfl ?_; clear S a; intro a S
           refine l_pure S (p_add (r := (i + 1)) rfl rfl (IntWalk.i64_in _ (by omega))) rfl rfl rfl ?_; clear S a; intro a S
           refine l_mv 1 S rfl ?_; clear S a; intro a S
           refine l_nil ?_
           refine e_then ?_
           exact ⟨(fu, z, 95, (i + 1), hex), ⟨S.only ⟨rfl, rfl, rfl, rfl, trivial⟩, H, by rw [← hR]; simp only [uOKl, bc5, bc7, bc9, bc13, bc15, bc29, bc31, cond_true, cond_false], by omega, ⟨hz, by omega⟩⟩, Nat.lt_succ_self fu⟩
         ·
          have c29 := bc29
          have c29 := ne_of_beq_false c29
          refine wp_skip ?_
          refine e_then ?_
          refine wp_seq ?_
          refine wp_seq ?_
          refine c_region ?_
          refine l_mv 1 S rfl ?_; clear S a; intro a S
          refine l_pure S (p_eql rfl rfl) rfl rfl rfl ?_; clear S a; intro a S
          refine l_nil ?_
          refine e_then ?_
          refine c_cond S rfl (fun bc34 => ?_) (fun bc34 => ?_)
          ·
           have c34 := bc34
           have c34 := eq_of_beq c34
           refine wp_seq ?_
           refine c_region ?_
           refine l_mv 1 S rfl ?_; clear S a; intro a S
           refine l_nil ?_
           refine e_then ?_
           refine wp_ret ?_
           refine e_then_ret ?_
           refine e_in_ret ?_
           refine e_then_ret ?_
           refine e_then_ret ?_
           refine e_in_ret ?_
           refine e_then_ret ?_
           have eR : R = false := by rw [← hR]; simp only [uOKl, bc5, bc7, bc9, bc13, bc15, bc29, bc34, cond_true, cond_false]
           clear hR; subst eR
           exact r_ret1 S rfl rfl ⟨rfl, H⟩
          ·
           have c34 := bc34
           have c34 := ne_of_beq_false c34
           refine wp_skip ?_
           refine e_then ?_
           refine c_region ?_
           refine l_mv 1 S rfl ?_; clear S a; intro a S
           refine l_nil ?_
           refine e_in 1 ?_
           refine e_then ?_
           refine c_region ?_
           refine l_mv 1 S rfl ?_; clear S a; intro a S
           refine l_pure S (p_add (r := (i + 1)) rfl rfl (IntWalk.i64_in _ (by omega))) rfl rfl rfl ?_; clear S a; intro a S
           refine l_mv 1 S rfl ?_; clear S a; intro a S
           refine l_nil ?_
           refine e_then ?_
           exact ⟨(fu, z, 33, (i + 1), hex), ⟨S.only ⟨rfl, rfl, rfl, rfl, trivial⟩, H, by rw [← hR]; simp only [uOKl, bc5, bc7, bc9, bc13, bc15, bc29, bc34, cond_true, cond_false], by omega, ⟨hz, by omega⟩⟩, Nat.lt_succ_self fu⟩
       ·
        refine l_off S rfl rfl rfl rfl bc13 rfl rfl ?_; clear S a; intro a S
        refine l_off S rfl rfl rfl rfl bc13 rfl rfl ?_; clear S a; intro a S
        refine l_off S rfl rfl rfl rfl bc13 rfl rfl ?_; clear S a; intro a S
        refine l_off S rfl rfl rfl rfl bc13 rfl rfl ?_; clear S a; intro a S
        refine l_off S rfl rfl rfl rfl bc13 rfl rfl ?_; clear S a; intro a S
        refine l_on S rfl rfl rfl rfl bc9 ?_
        refine l_pure S (p_pick_f rfl bc13 rfl) rfl rfl rfl ?_; clear S a; intro a S
        refine l_on S rfl rfl rfl rfl bc9 ?_
        refine l_pure S (p_move rfl) rfl rfl rfl ?_; clear S a; intro a S
        refine l_off S rfl rfl rfl rfl rfl rfl rfl ?_; clear S a; intro a S
        refine l_off S rfl rfl rfl rfl rfl rfl rfl ?_; clear S a; intro a S
        refine l_off S rfl rfl rfl rfl rfl rfl rfl ?_; clear S a; intro a S
        refine l_off S rfl rfl rfl rfl rfl rfl rfl ?_; clear S a; intro a S
        refine l_off S rfl rfl rfl rfl rfl rfl rfl ?_; clear S a; intro a S
        refine l_on S rfl rfl rfl rfl bc9 ?_
        refine l_pure S (p_pick_f rfl rfl rfl) rfl rfl rfl ?_; clear S a; intro a S
        refine l_pure S (p_pick_f rfl bc9 rfl) rfl rfl rfl ?_; clear S a; intro a S
        refine l_nil ?_
        refine e_then ?_
        refine c_cond (b := false) S rfl (fun h => by cases h) (fun _ => ?_)
        refine wp_skip ?_
        refine e_then ?_
        refine wp_seq ?_
        refine wp_seq ?_
        refine c_region ?_
        refine l_mv 2 S rfl ?_; clear S a; intro a S
        refine l_pure S (p_index rfl rfl (fun w => ix_string Tryz.underlying9 (by omega) (by omega))) rfl rfl rfl ?_; clear S a; intro a S
        have := bt_rng z i
        refine l_pure S (p_eql rfl rfl) rfl rfl rfl ?_; clear S a; intro a S
        refine l_nil ?_
        refine e_then ?_
        refine c_cond S rfl (fun bc40 => ?_) (fun bc40 => ?_)
        ·
         have c40 := bc40
         have c40 := eq_of_beq c40
         refine wp_seq ?_
         refine wp_seq ?_
         refine c_region ?_
         refine l_mv 1 S rfl ?_; clear S a; intro a S
         refine l_pure S (p_neq rfl rfl) rfl rfl rfl ?_; clear S a; intro a S
         refine l_nil ?_
         refine e_then ?_
         refine c_cond S rfl (fun bc42 => ?_) (fun bc42 => ?_)
         ·
          have c42 := bc42
          have c42 := bne_iff_ne.1 c42
          refine wp_seq ?_
          refine c_region ?_
          refine l_mv 1 S rfl ?_; clear S a; intro a S
          refine l_nil ?_
          refine e_then ?_
          refine wp_ret ?_
          refine e_then_ret ?_
          refine e_then_ret ?_
          refine e_in_ret ?_
          refine e_then_ret ?_
          refine e_then_ret ?_
          refine e_in_ret ?_
          refine e_then_ret ?_
          have eR : R = false := by rw [← hR]; simp only [uOKl, bc5, bc7, bc9, bc13, bc40, bc42, cond_true, cond_false]
          clear hR; subst eR
          exact r_ret1 S rfl rfl ⟨rfl, H⟩
         ·
          have c42 := bc42
          have c42 := bne_eq_false_iff_eq.1 c42
          refine wp_skip ?_
          refine e_then ?_
          refine wp_seq ?_
          refine c_region ?_
          refine l_mv 1 S rfl ?_; clear S a; intro a S
          refine l_nil ?_
          refine e_then ?_
          refine wp_exit ?_
          refine e_then_exit ?_
          refine e_in_exit ?_
          refine e_then ?_
          refine c_region ?_
          refine l_mv 1 S rfl ?_; clear S a; intro a S
          refine l_pure S (p_add (r := (i + 1)) rfl rfl (IntWalk.i64_in _ (by omega))) rfl rfl rfl ?_; clear S a; intro a S
          refine l_mv 1 S rfl ?_; clear S a; intro a S
          refine l_nil ?_
          refine e_then ?_
          exact ⟨(fu, z, 95, (i + 1), hex), ⟨S.only ⟨rfl, rfl, rfl, rfl, trivial⟩, H, by rw [← hR]; simp only [uOKl, bc5, bc7, bc9, bc13, bc40, bc42, cond_true, cond_false], by omega, ⟨hz, by omega⟩⟩, Nat.lt_succ_self fu⟩
        ·
         have c40 := bc40
         have c40 := ne_of_beq_false c40
         refine wp_skip ?_
         refine e_then ?_
         refine wp_seq ?_
         refine wp_seq ?_
         refine c_region ?_
         refine l_mv 1 S rfl ?_; clear S a; intro a S
         refine l_pure S (p_eql rfl rfl) rfl rfl rfl ?_; clear S a; intro a S
         refine l_nil ?_
         refine e_then ?_
         refine c_cond S rfl (fun bc45 => ?_) (fun bc45 => ?_)
         ·
          have c45 := bc45
          have c45 := eq_of_beq c45
          refine wp_seq ?_
          refine c_region ?_
          refine l_mv 1 S rfl ?_; clear S a; intro a S
          refine l_nil ?_
          refine e_then ?_
          refine wp_ret ?_
          refine e_then_ret ?_
          refine e_in_ret ?_
          refine e_then_ret ?_
          refine e_then_ret ?_
          refine e_in_ret ?_
          refine e_then_ret ?_
          have eR : R = false := by rw [← hR]; simp only [uOKl, bc5, bc7, bc9, bc13, bc40, bc45, cond_true, cond_false]
          clear hR; subst eR
          exact r_ret1 S rfl rfl ⟨rfl, H⟩
         ·
          have c45 := bc45
          have c45 := ne_of_beq_false c45
          refine wp_skip ?_
          refine e_then ?_
          refine c_region ?_
          refine l_mv 1 S rfl ?_; clear S a; intro a S
          refine l_nil ?_
          refine e_in 1 ?_
          refine e_then ?_
          refine c_region ?_
          refine l_mv 1 S rfl ?_; clear S a; intro a S
          refine l_pure S (p_add (r := (i + 1)) rfl rfl (IntWalk.i64_in _ (by omega))) rfl rfl rfl ?_; clear S a; intro a S
          refine l_mv 1 S rfl ?_; clear S a; intro a S
          refine l_nil ?_
          refine e_then ?_
          exact ⟨(fu, z, 33, (i + 1), hex), ⟨S.only ⟨rfl, rfl, rfl, rfl, trivial⟩, H, by rw [← hR]; simp only [uOKl, bc5, bc7, bc9, bc13, bc40, bc45, cond_true, cond_false], by omega, ⟨hz, by omega⟩⟩, Nat.lt_succ_self fu⟩
     ·
      have c7 := bc7
      have c7 := of_decide_eq_false c7
      refine l_off S rfl rfl rfl rfl bc7 rfl rfl ?_; clear S a; intro a S
      refine l_off S rfl rfl rfl rfl bc7 rfl rfl ?_; clear S a; intro a S
      refine l_off S rfl rfl rfl rfl bc7 rfl rfl ?_; clear S a; intro a S
      refine l_off S rfl rfl rfl rfl bc7 rfl rfl ?_; clear S a; intro a S
      refine l_pure S (p_pick_f rfl bc7 rfl) rfl rfl rfl ?_; clear S a; intro a S
      refine l_mv 1 S rfl ?_; clear S a; intro a S
      refine l_on S rfl rfl rfl rfl rfl ?_
      refine l_pure S (p_move rfl) rfl rfl rfl ?_; clear S a; intro a S
      refine l_on S rfl rfl rfl rfl rfl ?_
      refine l_pure S (p_move rfl) rfl rfl rfl ?_; clear S a; intro a S
      refine l_split (S.of 69 rfl) (fun bc49 => ?_) (fun bc49 => ?_)
      ·
       refine l_on S rfl rfl rfl rfl bc49 ?_
       refine l_pure S (p_move rfl) rfl rfl rfl ?_; clear S a; intro a S
       refine l_on S rfl rfl rfl rfl bc49 ?_
       refine l_pure S (p_move rfl) rfl rfl rfl ?_; clear S a; intro a S
       refine l_on S rfl rfl rfl rfl bc49 ?_
       refine l_pure S (p_index rfl rfl (fun w => ix_string Tryz.underlying9 (by omega) (by omega))) rfl rfl rfl ?_; clear S a; intro a S
       have := bt_rng z i
       refine l_on S rfl rfl rfl rfl bc49 ?_
       have := lw_range (HHW.bt z i) (by omega)
       have hcon := sm.lower_ wb _ B _ (HHW.bt z i) H
       refine l_call S rfl rfl Tryz.func66 rfl rfl (hcon) rfl rfl rfl ?_
       rintro e w ⟨rfl, hH⟩
       refine ⟨_, rfl, ?_⟩; clear S a; intro a S
       clear H hcon; have H := hH; clear hH
       refine l_on S rfl rfl rfl rfl bc49 ?_
       refine l_pure S (p_leq rfl rfl) rfl rfl rfl ?_; clear S a; intro a S
       refine l_on S rfl rfl rfl rfl rfl ?_
       refine l_pure S (p_pick_t rfl bc49 rfl) rfl rfl rfl ?_; clear S a; intro a S
       refine l_on S rfl rfl rfl rfl rfl ?_
       refine l_pure S (p_move rfl) rfl rfl rfl ?_; clear S a; intro a S
       refine l_split (S.of 76 rfl) (fun bc51 => ?_) (fun bc51 => ?_)
       ·
        have c51 := bc51
        have c51 := of_decide_eq_true c51
        refine l_on S rfl rfl rfl rfl bc51 ?_
        refine l_pure S (p_move rfl) rfl rfl rfl ?_; clear S a; intro a S
        refine l_on S rfl rfl rfl rfl bc51 ?_
        refine l_pure S (p_move rfl) rfl rfl rfl ?_; clear S a; intro a S
        refine l_on S rfl rfl rfl rfl bc51 ?_
        refine l_pure S (p_index rfl rfl (fun w => ix_string Tryz.underlying9 (by omega) (by omega))) rfl rfl rfl ?_; clear S a; intro a S
        have := bt_rng z i
        refine l_on S rfl rfl rfl rfl bc51 ?_
        have := lw_range (HHW.bt z i) (by omega)
        have hcon := sm.lower_ wb _ B _ (HHW.bt z i) H
        refine l_call S rfl rfl Tryz.func66 rfl rfl (hcon) rfl rfl rfl ?_
        rintro e w ⟨rfl, hH⟩
        refine ⟨_, rfl, ?_⟩; clear S a; intro a S
        clear H hcon; have H := hH; clear hH
        refine l_on S rfl rfl rfl rfl bc51 ?_
        refine l_pure S (p_leq rfl rfl) rfl rfl rfl ?_; clear S a; intro a S
        refine l_on S rfl rfl rfl rfl rfl ?_
        refine l_pure S (p_pick_t rfl bc51 rfl) rfl rfl rfl ?_; clear S a; intro a S
        refine l_pure S (p_pick_f rfl rfl rfl) rfl rfl rfl ?_; clear S a; intro a S
        refine l_nil ?_
        refine e_then ?_
        refine c_cond S rfl (fun bc53 => ?_) (fun bc53 => ?_)
        ·
         have c53 := bc53
         have c53 := of_decide_eq_true c53
         refine wp_seq ?_
         refine c_region ?_
         refine l_mv 1 S rfl ?_; clear S a; intro a S
         refine l_nil ?_
         refine e_then ?_
         refine wp_exit ?_
         refine e_then_exit ?_
         refine e_in_exit ?_
         refine e_then ?_
         refine c_region ?_
         refine l_mv 1 S rfl ?_; clear S a; intro a S
         refine l_pure S (p_add (r := (i + 1)) rfl rfl (IntWalk.i64_in _ (by omega))) rfl rfl rfl ?_; clear S a; intro a S
         refine l_mv 1 S rfl ?_; clear S a; intro a S
         refine l_nil ?_
         refine e_then ?_
         exact ⟨(fu, z, 48, (i + 1), hex), ⟨S.only ⟨rfl, rfl, rfl, rfl, trivial⟩, H, by rw [← hR]; simp only [uOKl, bc5, bc7, bc49, bc51, bc53, cond_true, cond_false], by omega, ⟨hz, by omega⟩⟩, Nat.lt_succ_self fu⟩
        ·
         have c53 := bc53
         have c53 := of_decide_eq_false c53
         refine wp_skip ?_
         refine e_then ?_
         refine wp_seq ?_
         refine wp_seq ?_
         refine c_region ?_
         refine l_mv 2 S rfl ?_; clear S a; intro a S
         refine l_pure S (p_index rfl rfl (fun w => ix_string Tryz.underlying9 (by omega) (by omega))) rfl rfl rfl ?_; clear S a; intro a S
         have := bt_rng z i
         refine l_pure S (p_eql rfl rfl) rfl rfl rfl ?_; clear S a; intro a S
         refine l_nil ?_
         refine e_then ?_
         refine c_cond S rfl (fun bc55 => ?_) (fun bc55 => ?_)
         ·
          have c55 := bc55
          have c55 := eq_of_beq c55
          refine wp_seq ?_
          refine wp_seq ?_
          refine c_region ?_
          refine l_mv 1 S rfl ?_; clear S a; intro a S
          refine l_pure S (p_neq rfl rfl) rfl rfl rfl ?_; clear S a; intro a S
          refine l_nil ?_
          refine e_then ?_
          refine c_cond S rfl (fun bc57 => ?_) (fun bc57 => ?_)
          ·
           have c57 := bc57
           have c57 := bne_iff_ne.1 c57
           refine wp_seq ?_
           refine c_region ?_
           refine l_mv 1 S rfl ?_; clear S a; intro a S
           refine l_nil ?_
           refine e_then ?_
           refine wp_ret ?_
           refine e_then_ret ?_
           refine e_then_ret ?_
           refine e_in_ret ?_
           refine e_then_ret ?_
           refine e_then_ret ?_
           refine e_in_ret ?_
           refine e_then_ret ?_
           have eR : R = false := by rw [← hR]; simp only [uOKl, bc5, bc7, bc49, bc51, bc53, bc55, bc57, cond_true, cond_false]
           clear hR; subst eR
           exact r_ret1 S rfl rfl ⟨rfl, H⟩
          ·
           have c57 := bc57
           have c57 := bne_eq_false_iff_eq.1 c57
           refine wp_skip ?_
           refine e_then ?_
           refine wp_seq ?_
           refine c_region ?_
           refine l_mv 1 S rfl ?_; clear S a; intro a S
           refine l_nil ?_
           refine e_then ?_
           refine wp_exit ?_
           refine e_then_exit ?_
           refine e_in_exit ?_
           refine e_then ?_
           refine c_region ?_
           refine l_mv 1 S rfl ?_; clear S a; intro a S
           refine l_pure S (p_add (r := (i + 1)) rfl rfl (IntWalk.i64_in _ (by omega))) rfl rfl rfl ?_; clear S a; intro a S
           refine l_mv 1 S rfl ?_; clear S a; intro a S
           refine l_nil ?_
           refine e_then ?_
           exact ⟨(fu, z, 95, (i + 1), hex), ⟨S.only ⟨rfl, rfl, rfl, rfl, trivial⟩, H, by rw [← hR]; simp only [uOKl, bc5, bc7, bc49, bc51, bc53, bc55, bc57, cond_true, cond_false], by omega, ⟨hz, by omega⟩⟩, Nat.lt_succ_self fu⟩
         ·
          have c55 := bc55
          have c55 := ne_of_beq_false c55
          refine wp_skip ?_
          refine e_then ?_
          refine wp_seq ?_
          refine wp_seq ?_
          refine c_region ?_
          refine l_mv 1 S rfl ?_; clear S a; intro a S
          refine l_pure S (p_eql rfl rfl) rfl rfl rfl ?_; clear S a; intro a S
          refine l_nil ?_
          refine e_then ?_
          refine c_cond S rfl (fun bc60 => ?_) (fun bc60 => ?_)
          ·
           have c60 := bc60
           have c60 := eq_of_beq c60
           refine wp_seq ?_
           refine c_region ?_
           refine l_mv 1 S rfl ?_; clear S a; intro a S
           refine l_nil ?_
           refine e_then ?_
           refine wp_ret ?_
           refine e_then_ret ?_
           refine e_in_ret ?_
           refine e_then_ret ?_
           refine e_then_ret ?_
           refine e_in_ret ?_
           refine e_then_ret ?_
           have eR : R = false := by rw [← hR]; simp only [uOKl, bc5, bc7, bc49, bc51, bc53, bc55, bc60, cond_true, cond_false]
           clear hR; subst eR
           exact r_ret1 S rfl rfl ⟨rfl, H⟩
          ·
           have c60 := bc60
           have c60 := ne_of_beq_false c60
           refine wp_skip ?_
           refine e_then ?_
           refine c_region ?_
           refine l_mv 1 S rfl ?_; clear S a; intro a S
           refine l_nil ?_
           refine e_in 1 ?_
           refine e_then ?_
           refine c_region ?_
           refine l_mv 1 S rfl ?_; clear S a; intro a S
           refine l_pure S (p_add (r := (i + 1)) rfl rfl (IntWalk.i64_in _ (by omega))) rfl rfl rfl ?_; clear S a; intro a S
           refine l_mv 1 S rfl ?_; clear S a; intro a S
           refine l_nil ?_
           refine e_then ?_
           exact ⟨(fu, z, 33, (i + 1), hex), ⟨S.only ⟨rfl, rfl, rfl, rfl, trivial⟩, H, by rw [← hR]; simp only [uOKl, bc5, bc7, bc49, bc51, bc53, bc55, bc60, cond_true, cond_false], by omega, ⟨hz, by omega⟩⟩, Nat.lt_succ_self fu⟩
       ·
        have c51 := bc51
        have c51 := of_decide_eq_false c51
        refine l_off S rfl rfl rfl rfl bc51 rfl rfl ?_; clear S a; intro a S
        refine l_off S rfl rfl rfl rfl bc51 rfl rfl ?_; clear S a; intro a S
        refine l_off S rfl rfl rfl rfl bc51 rfl rfl ?_; clear S a; intro a S
        refine l_off S rfl rfl rfl rfl bc51 rfl rfl ?_; clear S a; intro a S
        refine l_off S rfl rfl rfl rfl bc51 rfl rfl ?_; clear S a; intro a S
        refine l_on S rfl rfl rfl rfl rfl ?_
        refine l_pure S (p_pick_f rfl bc51 rfl) rfl rfl rfl ?_; clear S a; intro a S
        refine l_pure S (p_pick_f rfl rfl rfl) rfl rfl rfl ?_; clear S a; intro a S
        refine l_nil ?_
        refine e_then ?_
        refine c_cond (b := false) S rfl (fun h => by cases h) (fun _ => ?_)
        refine wp_skip ?_
        refine e_then ?_
        refine wp_seq ?_
        refine wp_seq ?_
        refine c_region ?_
        refine l_mv 2 S rfl ?_; clear S a; intro a S
        refine l_pure S (p_index rfl rfl (fun w => ix_string Tryz.underlying9 (by omega) (by omega))) rfl rfl rfl ?_; clear S a; intro a S
        have := bt_rng z i
        refine l_pure S (p_eql rfl rfl) rfl rfl rfl ?_; clear S a; intro a S
        refine l_nil ?_
        refine e_then ?_
        refine c_cond S rfl (fun bc65 => ?_) (fun bc65 => ?_)
        ·
         have c65 := bc65
         have c65 := eq_of_beq c65
         refine wp_seq ?_
         refine wp_seq ?_
         refine c_region ?_
         refine l_mv 1 S rfl ?_; clear S a; intro a S
         refine l_pure S (p_neq rfl rfl) rfl rfl rfl ?_; clear S a; intro a S
         refine l_nil ?_
         refine e_then ?_
         refine c_cond S rfl (fun bc67 => ?_) (fun bc67 => ?_)
         ·
          have c67 := bc67
          have c67 := bne_iff_ne.1 c67
          refine wp_seq ?_
          refine c_region ?_
          refine l_mv 1 S rfl ?_; clear S a; intro a S
          refine l_nil ?_
          refine e_then ?_
          refine wp_ret ?_
          refine e_then_ret ?_
          refine e_then_ret ?_
          refine e_in_ret ?_
          refine e_then_ret ?_
          refine e_then_ret ?_
          refine e_in_ret ?_
          refine e_then_ret ?_
          have eR : R = false := by rw [← hR]; simp only [uOKl, bc5, bc7, bc49, bc51, bc65, bc67, cond_true, cond_false]
          clear hR; subst eR
          exact r_ret1 S rfl rfl ⟨rfl, H⟩
         ·
          have c67 := bc67
          have c67 := bne_eq_false_iff_eq.1 c67
          refine wp_skip ?_
          refine e_then ?_
          refine wp_seq ?_
          refine c_region ?_
          refine l_mv 1 S rfl ?_; clear S a; intro a S
          refine l_nil ?_
          refine e_then ?_
          refine wp_exit ?_
          refine e_then_exit ?_
          refine e_in_exit ?_
          refine e_then ?_
          refine c_region ?_
          refine l_mv 1 S rfl ?_; clear S a; intro a S
          refine l_pure S (p_add (r := (i + 1)) rfl rfl (IntWalk.i64_in _ (by omega))) rfl rfl rfl ?_; clear S a; intro a S
          refine l_mv 1 S rfl ?_; clear S a; intro a S
          refine l_nil ?_
          refine e_then ?_
          exact ⟨(fu, z, 95, (i + 1), hex), ⟨S.only ⟨rfl, rfl, rfl, rfl, trivial⟩, H, by rw [← hR]; simp only [uOKl, bc5, bc7, bc49, bc51, bc65, bc67, cond_true, cond_false], by omega, ⟨hz, by omega⟩⟩, Nat.lt_succ_self fu⟩
        ·
         have c65 := bc65
         have c65 := ne_of_beq_false c65
         refine wp_skip ?_
         refine e_then ?_
         refine wp_seq ?_
         refine wp_seq ?_
         refine c_region ?_
         refine l_mv 1 S rfl ?_; clear S a; intro a S
         refine l_pure S (p_eql rfl rfl) rfl rfl rfl ?_; clear S a; intro a S
         refine l_nil ?_
         refine e_then ?_
         refine c_cond S rfl (fun bc70 => ?_) (fun bc70 => ?_)
         ·
          have c70 := bc70
          have c70 := eq_of_beq c70
          refine wp_seq ?_
          refine c_region ?_
          refine l_mv 1 S rfl ?_; clear S a; intro a S
          refine l_nil ?_
          refine e_then ?_
          refine wp_ret ?_
          refine e_then_ret ?_
          refine e_in_ret ?_
          refine e_then_ret ?_
          refine e_then_ret ?_
          refine e_in_ret ?_
          refine e_then_ret ?_
          have eR : R = false := by rw [← hR]; simp only [uOKl, bc5, bc7, bc49, bc51, bc65, bc70, cond_true, cond_false]
          clear hR; subst eR
          exact r_ret1 S rfl rfl ⟨rfl, H⟩
         ·
          have c70 := bc70
          have c70 := ne_of_beq_false c70
          refine wp_skip ?_
          refine e_then ?_
          refine c_region ?_
          refine l_mv 1 S rfl ?_; clear S a; intro a S
          refine l_nil ?_
          refine e_in 1 ?_
          refine e_then ?_
          refine c_region ?_
          refine l_mv 1 S rfl ?_; clear S a; intro a S
          refine l_pure S (p_add (r := (i + 1)) rfl rfl (IntWalk.i64_in _ (by omega))) rfl rfl rfl ?_; clear S a; intro a S
          refine l_mv 1 S rfl ?_; clear S a; intro a S
          refine l_nil ?_
          refine e_then ?_
          exact ⟨(fu, z, 33, (i + 1), hex), ⟨S.only ⟨rfl, rfl, rfl, rfl, trivial⟩, H, by rw [← hR]; simp only [uOKl, bc5, bc7, bc49, bc51, bc65, bc70, cond_true, cond_false], by omega, ⟨hz, by omega⟩⟩, Nat.lt_succ_self fu⟩
      ·
       refine l_off S rfl rfl rfl rfl bc49 rfl rfl ?_; clear S a; intro a S
       refine l_off S rfl rfl rfl rfl bc49 rfl rfl ?_; clear S a; intro a S
       refine l_off S rfl rfl rfl rfl bc49 rfl rfl ?_; clear S a; intro a S
       refine l_off S rfl rfl rfl rfl bc49 rfl rfl ?_; clear S a; intro a S
       refine l_off S rfl rfl rfl rfl bc49 rfl rfl ?_; clear S a; intro a S
       refine l_on S rfl rfl rfl rfl rfl ?_
       refine l_pure S (p_pick_f rfl bc49 rfl) rfl rfl rfl ?_; clear S a; intro a S
       refine l_on S rfl rfl rfl rfl rfl ?_
       refine l_pure S (p_move rfl) rfl rfl rfl ?_; clear S a; intro a S
       refine l_off S rfl rfl rfl rfl rfl rfl rfl ?_; clear S a; intro a S
       refine l_off S rfl rfl rfl rfl rfl rfl rfl ?_; clear S a; intro a S
       refine l_off S rfl rfl rfl rfl rfl rfl rfl ?_; clear S a; intro a S
       refine l_off S rfl rfl rfl rfl rfl rfl rfl ?_; clear S a; intro a S
       refine l_off S rfl rfl rfl rfl rfl rfl rfl ?_; clear S a; intro a S
       refine l_on S rfl rfl rfl rfl rfl ?_
       refine l_pure S (p_pick_f rfl rfl rfl) rfl rfl rfl ?_; clear S a; intro a S
       refine l_pure S (p_pick_f rfl rfl rfl) rfl rfl rfl ?_; clear S a; intro a S
       refine l_nil ?_
       refine e_then ?_
       refine c_cond (b := false) S rfl (fun h => by cases h) (fun _ => ?_)
       refine wp_skip ?_
       refine e_then ?_
       refine wp_seq ?_
       refine wp_seq ?_
       refine c_region ?_
       refine l_mv 2 S rfl ?_; clear S a; intro a S
       refine l_pure S (p_index rfl rfl (fun w => ix_string Tryz.underlying9 (by omega) (by omega))) rfl rfl rfl ?_; clear S a; intro a S
       have := bt_rng z i
       refine l_pure S (p_eql rfl rfl) rfl rfl rfl ?_; clear S a; intro a S
       refine l_nil ?_
       refine e_then ?_
       refine c_cond S rfl (fun bc76 => ?_) (fun bc76 => ?_)
       ·
        have c76 := bc76
        have c76 := eq_of_beq c76
        refine wp_seq ?_
        refine wp_seq ?_
        refine c_region ?_
        refine l_mv 1 S rfl ?_; clear S a; intro a S
        refine l_pure S (p_neq rfl rfl) rfl rfl rfl ?_; clear S a; intro a S
        refine l_nil ?_
        refine e_then ?_
        refine c_cond S rfl (fun bc78 => ?_) (fun bc78 => ?_)
        ·
         have c78 := bc78
         have c78 := bne_iff_ne.1 c78
         refine wp_seq ?_
         refine c_region ?_
         refine l_mv 1 S rfl ?_; clear S a; intro a S
         refine l_nil ?_
         refine e_then ?_
         refine wp_ret ?_
         refine e_then_ret ?_
         refine e_then_ret ?_
         refine e_in_ret ?_
         refine e_then_ret ?_
         refine e_then_ret ?_
         refine e_in_ret ?_
         refine e_then_ret ?_
         have eR : R = false := by rw [← hR]; simp only [uOKl, bc5, bc7, bc49, bc76, bc78, cond_true, cond_false]
         clear hR; subst eR
         exact r_ret1 S rfl rfl ⟨rfl, H⟩
        ·
         have c78 := bc78
         have c78 := bne_eq_false_iff_eq.1 c78
         refine wp_skip ?_
         refine e_then ?_
         refine wp_seq ?_
         refine c_region ?_
         refine l_mv 1 S rfl ?_; clear S a; intro a S
         refine l_nil ?_
         refine e_then ?_
         refine wp_exit ?_
         refine e_then_exit ?_
         refine e_in_exit ?_
         refine e_then ?_
         refine c_region ?_
         refine l_mv 1 S rfl ?_; clear S a; intro a S
         refine l_pure S (p_add (r := (i + 1)) rfl rfl (IntWalk.i64_in _ (by omega))) rfl rfl rfl ?_; clear S a; intro a S
         refine l_mv 1 S rfl ?_; clear S a; intro a S
         refine l_nil ?_
         refine e_then ?_
         exact ⟨(fu, z, 95, (i + 1), hex), ⟨S.only ⟨rfl, rfl, rfl, rfl, trivial⟩, H, by rw [← hR]; simp only [uOKl, bc5, bc7, bc49, bc76, bc78, cond_true, cond_false], by omega, ⟨hz, by omega⟩⟩, Nat.lt_succ_self fu⟩
       ·
        have c76 := bc76
        have c76 := ne_of_beq_false c76
        refine wp_skip ?_
        refine e_then ?_
        refine wp_seq ?_
        refine wp_seq ?_
        refine c_region ?_
        refine l_mv 1 S rfl ?_; clear S a; intro a S
        refine l_pure S (p_eql rfl rfl) rfl rfl rfl ?_; clear S a; intro a S
        refine l_nil ?_
        refine e_then ?_
        refine c_cond S rfl (fun bc81 => ?_) (fun bc81 => ?_)
        ·
         have c81 := bc81
         have c81 := eq_of_beq c81
         refine wp_seq ?_
         refine c_region ?_
         refine l_mv 1 S rfl ?_; clear S a; intro a S
         refine l_nil ?_
         refine e_then ?_
         refine wp_ret ?_
         refine e_then_ret ?_
         refine e_in_ret ?_
         refine e_then_ret ?_
         refine e_then_ret ?_
         refine e_in_ret ?_
         refine e_then_ret ?_
         have eR : R = false := by rw [← hR]; simp only [uOKl, bc5, bc7, bc49, bc76, bc81, cond_true, cond_false]
         clear hR; subst eR
         exact r_ret1 S rfl rfl ⟨rfl, H⟩
        ·
         have c81 := bc81
         have c81 := ne_of_beq_false c81
         refine wp_skip ?_
         refine e_then ?_
         refine c_region ?_
         refine l_mv 1 S rfl ?_; clear S a; intro a S
         refine l_nil ?_
         refine e_in 1 ?_
         refine e_then ?_
         refine c_region ?_
         refine l_mv 1 S rfl ?_; clear S a; intro a S
         refine l_pure S (p_add (r := (i + 1)) rfl rfl (IntWalk.i64_in _ (by omega))) rfl rfl rfl ?_; clear S a; intro a S
         refine l_mv 1 S rfl ?_; clear S a; intro a S
         refine l_nil ?_
         refine e_then ?_
         exact ⟨(fu, z, 33, (i + 1), hex), ⟨S.only ⟨rfl, rfl, rfl, rfl, trivial⟩, H, by rw [← hR]; simp only [uOKl, bc5, bc7, bc49, bc76, bc81, cond_true, cond_false], by omega, ⟨hz, by omega⟩⟩, Nat.lt_succ_self fu⟩
    ·
     have c5 := bc5
     have c5 := of_decide_eq_false c5
     refine wp_exit ?_
     refine e_then_exit ?_
     refine e_then_exit ?_
     refine e_in_exit ?_
     refine e_then ?_
     exact ⟨saw, S.only ⟨rfl, trivial⟩, H, by rw [← hR]; simp only [uOKl, bc5, cond_true, cond_false]⟩
  ·
   refine wp_seq ?_
   refine c_region ?_
   refine l_mv 1 S rfl ?_; clear S a; intro a S
   refine l_pure S (p_lens Tryz.underlying9 rfl) rfl rfl rfl ?_; clear S a; intro a S
   refine l_pure S (p_geq rfl rfl) rfl rfl rfl ?_; clear S a; intro a S
   refine l_mv 1 S rfl ?_; clear S a; intro a S
   refine l_split (S.of 24 rfl) (fun bc84 => ?_) (fun bc84 => ?_)
   ·
    have c84 := bc84
    have c84 := of_decide_eq_true c84
    refine l_on S rfl rfl rfl rfl bc84 ?_
    refine l_pure S (p_move rfl) rfl rfl rfl ?_; clear S a; intro a S
    refine l_on S rfl rfl rfl rfl bc84 ?_
    refine l_pure S (p_index rfl rfl (fun w => ix_string Tryz.underlying9 (by omega) (by omega))) rfl rfl rfl ?_; clear S a; intro a S
    have := bt_rng z 0
    refine l_on S rfl rfl rfl rfl bc84 ?_
    refine l_pure S (p_eql rfl rfl) rfl rfl rfl ?_; clear S a; intro a S
    refine l_pure S (p_pick_t rfl bc84 rfl) rfl rfl rfl ?_; clear S a; intro a S
    refine l_mv 1 S rfl ?_; clear S a; intro a S
    refine l_split (S.of 29 rfl) (fun bc86 => ?_) (fun bc86 => ?_)
    ·
     have c86 := bc86
     have c86 := eq_of_beq c86
     refine l_on S rfl rfl rfl rfl bc86 ?_
     refine l_pure S (p_move rfl) rfl rfl rfl ?_; clear S a; intro a S
     refine l_on S rfl rfl rfl rfl bc86 ?_
     refine l_pure S (p_index rfl rfl (fun w => ix_string Tryz.underlying9 (by omega) (by omega))) rfl rfl rfl ?_; clear S a; intro a S
     have := bt_rng z 1
     refine l_on S rfl rfl rfl rfl bc86 ?_
     have := lw_range (HHW.bt z 1) (by omega)
     have hcon := sm.lower_ wb _ B _ (HHW.bt z 1) H
     refine l_call S rfl rfl Tryz.func66 rfl rfl (hcon) rfl rfl rfl ?_
     rintro e w ⟨rfl, hH⟩
     refine ⟨_, rfl, ?_⟩; clear S a; intro a S
     clear H hcon; have H := hH; clear hH
     refine l_on S rfl rfl rfl rfl bc86 ?_
     refine l_pure S (p_eql rfl rfl) rfl rfl rfl ?_; clear S a; intro a S
     refine l_on S rfl rfl rfl rfl bc86 ?_
     refine l_pure S (p_move rfl) rfl rfl rfl ?_; clear S a; intro a S
     refine l_split (S.of 34 rfl) (fun bc88 => ?_) (fun bc88 => ?_)
     ·
      have c88 := bc88
      have c88 := eq_of_beq c88
      refine l_off S rfl rfl rfl rfl bc88 rfl rfl ?_; clear S a; intro a S
      refine l_off S rfl rfl rfl rfl bc88 rfl rfl ?_; clear S a; intro a S
      refine l_off S rfl rfl rfl rfl bc88 rfl rfl ?_; clear S a; intro a S
      refine l_off S rfl rfl rfl rfl bc88 rfl rfl ?_; clear S a; intro a S
      refine l_on S rfl rfl rfl rfl bc86 ?_
      refine l_pure S (p_pick_t rfl bc88 rfl) rfl rfl rfl ?_; clear S a; intro a S
      refine l_on S rfl rfl rfl rfl bc86 ?_
      refine l_pure S (p_move rfl) rfl rfl rfl ?_; clear S a; intro a S
      refine l_off S rfl rfl rfl rfl rfl rfl rfl ?_; clear S a; intro a S
      refine l_off S rfl rfl rfl rfl rfl rfl rfl ?_; clear S a; intro a S
      refine l_off S rfl rfl rfl rfl rfl rfl rfl ?_; clear S a; intro a S
      refine l_off S rfl rfl rfl rfl rfl rfl rfl ?_; clear S a; intro a S
      refine l_on S rfl rfl rfl rfl bc86 ?_
      refine l_pure S (p_pick_t rfl rfl rfl) rfl rfl rfl ?_; clear S a; intro a S
      refine l_pure S (p_pick_t rfl bc86 rfl) rfl rfl rfl ?_; clear S a; intro a S
      refine l_nil ?_
      refine e_then ?_
      refine c_cond (b := true) S rfl (fun _ => ?_) (fun h => by cases h)
      refine wp_seq ?_
      refine c_region ?_
      refine l_mv 1 S rfl ?_; clear S a; intro a S
      refine l_nil ?_
      refine e_then ?_
      refine wp_seq ?_
      refine c_region ?_
      refine l_mv 1 S rfl ?_; clear S a; intro a S
      refine l_nil ?_
      refine e_then ?_
      refine c_region ?_
      refine l_mv 1 S rfl ?_; clear S a; intro a S
      refine l_pure S (p_index rfl rfl (fun w => ix_string Tryz.underlying9 (by omega) (by omega))) rfl rfl rfl ?_; clear S a; intro a S
      have := bt_rng z 1
      have := lw_range (HHW.bt z 1) (by omega)
      have hcon := sm.lower_ wb _ B _ (HHW.bt z 1) H
      refine l_call S rfl rfl Tryz.func66 rfl rfl (hcon) rfl rfl rfl ?_
      rintro e w ⟨rfl, hH⟩
      refine ⟨_, rfl, ?_⟩; clear S a; intro a S
      clear H hcon; have H := hH; clear hH
      refine l_pure S (p_eql rfl rfl) rfl rfl rfl ?_; clear S a; intro a S
      refine l_mv 1 S rfl ?_; clear S a; intro a S
      refine l_nil ?_
      refine e_then ?_
      exact ⟨z, 48, 2, ((lw (HHW.bt z 1)) == 120), S.only ⟨rfl, rfl, rfl, rfl, trivial⟩, H, by rw [← hR]; simp only [uOK1, bc84, bc86, bc88, cond_true, cond_false], ⟨hz, by omega⟩⟩
     ·
      have c88 := bc88
      have c88 := ne_of_beq_false c88
      refine l_on S rfl rfl rfl rfl bc88 ?_
      refine l_pure S (p_move rfl) rfl rfl rfl ?_; clear S a; intro a S
      refine l_on S rfl rfl rfl rfl bc88 ?_
      refine l_pure S (p_index rfl rfl (fun w => ix_string Tryz.underlying9 (by omega) (by omega))) rfl rfl rfl ?_; clear S a; intro a S
      have := bt_rng z 1
      refine l_on S rfl rfl rfl rfl bc88 ?_
      have := lw_range (HHW.bt z 1) (by omega)
      have hcon := sm.lower_ wb _ B _ (HHW.bt z 1) H
      refine l_call S rfl rfl Tryz.func66 rfl rfl (hcon) rfl rfl rfl ?_
      rintro e w ⟨rfl, hH⟩
      refine ⟨_, rfl, ?_⟩; clear S a; intro a S
      clear H hcon; have H := hH; clear hH
      refine l_on S rfl rfl rfl rfl bc88 ?_
      refine l_pure S (p_eql rfl rfl) rfl rfl rfl ?_; clear S a; intro a S
      refine l_on S rfl rfl rfl rfl bc86 ?_
      refine l_pure S (p_pick_f rfl bc88 rfl) rfl rfl rfl ?_; clear S a; intro a S
      refine l_on S rfl rfl rfl rfl bc86 ?_
      refine l_pure S (p_move rfl) rfl rfl rfl ?_; clear S a; intro a S
      refine l_split (S.of 40 rfl) (fun bc94 => ?_) (fun bc94 => ?_)
      ·
       have c94 := bc94
       have c94 := eq_of_beq c94
       refine l_off S rfl rfl rfl rfl bc94 rfl rfl ?_; clear S a; intro a S
       refine l_off S rfl rfl rfl rfl bc94 rfl rfl ?_; clear S a; intro a S
       refine l_off S rfl rfl rfl rfl bc94 rfl rfl ?_; clear S a; intro a S
       refine l_off S rfl rfl rfl rfl bc94 rfl rfl ?_; clear S a; intro a S
       refine l_on S rfl rfl rfl rfl bc86 ?_
       refine l_pure S (p_pick_t rfl bc94 rfl) rfl rfl rfl ?_; clear S a; intro a S
       refine l_pure S (p_pick_t rfl bc86 rfl) rfl rfl rfl ?_; clear S a; intro a S
       refine l_nil ?_
       refine e_then ?_
       refine c_cond (b := true) S rfl (fun _ => ?_) (fun h => by cases h)
       refine wp_seq ?_
       refine c_region ?_
       refine l_mv 1 S rfl ?_; clear S a; intro a S
       refine l_nil ?_
       refine e_then ?_
       refine wp_seq ?_
       refine c_region ?_
       refine l_mv 1 S rfl ?_; clear S a; intro a S
       refine l_nil ?_
       refine e_then ?_
       refine c_region ?_
       refine l_mv 1 S rfl ?_; clear S a; intro a S
       refine l_pure S (p_index rfl rfl (fun w => ix_string Tryz.underlying9 (by omega) (by omega))) rfl rfl rfl ?_; clear S a; intro a S
       have := bt_rng z 1
       have := lw_range (HHW.bt z 1) (by omega)
       have hcon := sm.lower_ wb _ B _ (HHW.bt z 1) H
       refine l_call S rfl rfl Tryz.func66 rfl rfl (hcon) rfl rfl rfl ?_
       rintro e w ⟨rfl, hH⟩
       refine ⟨_, rfl, ?_⟩; clear S a; intro a S
       clear H hcon; have H := hH; clear hH
       refine l_pure S (p_eql rfl rfl) rfl rfl rfl ?_; clear S a; intro a S
       refine l_mv 1 S rfl ?_; clear S a; intro a S
       refine l_nil ?_
       refine e_then ?_
       exact ⟨z, 48, 2, ((lw (HHW.bt z 1)) == 120), S.only ⟨rfl, rfl, rfl, rfl, trivial⟩, H, by rw [← hR]; simp only [uOK1, bc84, bc86, bc88, bc94, cond_true, cond_false], ⟨hz, by omega⟩⟩
      ·
       have c94 := bc94
       have c94 := ne_of_beq_false c94
       refine l_on S rfl rfl rfl rfl bc94 ?_
       refine l_pure S (p_move rfl) rfl rfl rfl ?_; clear S a; intro a S
       refine l_on S rfl rfl rfl rfl bc94 ?_
       refine l_pure S (p_index rfl rfl (fun w => ix_string Tryz.underlying9 (by omega) (by omega))) rfl rfl rfl ?_; clear S a; intro a S
       have := bt_rng z 1
       refine l_on S rfl rfl rfl rfl bc94 ?_
       have := lw_range (HHW.bt z 1) (by omega)
       have hcon := sm.lower_ wb _ B _ (HHW.bt z 1) H
       refine l_call S rfl rfl Tryz.func66 rfl rfl (hcon) rfl rfl rfl ?_
       rintro e w ⟨rfl, hH⟩
       refine ⟨_, rfl, ?_⟩; clear S a; intro a S
       clear H hcon; have H := hH; clear hH
       refine l_on S rfl rfl rfl rfl bc94 ?_
       refine l_pure S (p_eql rfl rfl) rfl rfl rfl ?_; clear S a; intro a S
       refine l_on S rfl rfl rfl rfl bc86 ?_
       refine l_pure S (p_pick_f rfl bc94 rfl) rfl rfl rfl ?_; clear S a; intro a S
       refine l_pure S (p_pick_t rfl bc86 rfl) rfl rfl rfl ?_; clear S a; intro a S
       refine l_nil ?_
       refine e_then ?_
       refine c_cond S rfl (fun bc99 => ?_) (fun bc99 => ?_)
       ·
        have c99 := bc99
        have c99 := eq_of_beq c99
        refine wp_seq ?_
        refine c_region ?_
        refine l_mv 1 S rfl ?_; clear S a; intro a S
        refine l_nil ?_
        refine e_then ?_
        refine wp_seq ?_
        refine c_region ?_
        refine l_mv 1 S rfl ?_; clear S a; intro a S
        refine l_nil ?_
        refine e_then ?_
        refine c_region ?_
        refine l_mv 1 S rfl ?_; clear S a; intro a S
        refine l_pure S (p_index rfl rfl (fun w => ix_string Tryz.underlying9 (by omega) (by omega))) rfl rfl rfl ?_; clear S a; intro a S
        have := bt_rng z 1
        have := lw_range (HHW.bt z 1) (by omega)
        have hcon := sm.lower_ wb _ B _ (HHW.bt z 1) H
        refine l_call S rfl rfl Tryz.func66 rfl rfl (hcon) rfl rfl rfl ?_
        rintro e w ⟨rfl, hH⟩
        refine ⟨_, rfl, ?_⟩; clear S a; intro a S
        clear H hcon; have H := hH; clear hH
        refine l_pure S (p_eql rfl rfl) rfl rfl rfl ?_; clear S a; intro a S
        refine l_mv 1 S rfl ?_; clear S a; intro a S
        refine l_nil ?_
        refine e_then ?_
        exact ⟨z, 48, 2, ((lw (HHW.bt z 1)) == 120), S.only ⟨rfl, rfl, rfl, rfl, trivial⟩, H, by rw [← hR]; simp only [uOK1, bc84, bc86, bc88, bc94, bc99, cond_true, cond_false], ⟨hz, by omega⟩⟩
       ·
        have c99 := bc99
        have c99 := ne_of_beq_false c99
        refine wp_skip ?_
        refine e_then ?_
        exact ⟨z, 94, 0, false, S.only ⟨rfl, rfl, rfl, rfl, trivial⟩, H, by rw [← hR]; simp only [uOK1, bc84, bc86, bc88, bc94, bc99, cond_true, cond_false], ⟨hz, by omega⟩⟩
    ·
     have c86 := bc86
     have c86 := ne_of_beq_false c86
     refine l_off S rfl rfl rfl rfl bc86 rfl rfl ?_; clear S a; intro a S
     refine l_off S rfl rfl rfl rfl bc86 rfl rfl ?_; clear S a; intro a S
     refine l_off S rfl rfl rfl rfl bc86 rfl rfl ?_; clear S a; intro a S
     refine l_off S rfl rfl rfl rfl bc86 rfl rfl ?_; clear S a; intro a S
     refine l_off S rfl rfl rfl rfl bc86 rfl rfl ?_; clear S a; intro a S
     refine l_offU S rfl rfl rfl rfl rfl rfl ?_; clear S a; intro a S
     refine l_offU S rfl rfl rfl rfl rfl rfl ?_; clear S a; intro a S
     refine l_offU S rfl rfl rfl rfl rfl rfl ?_; clear S a; intro a S
     refine l_offU S rfl rfl rfl rfl rfl rfl ?_; clear S a; intro a S
     refine l_off S rfl rfl rfl rfl bc86 rfl rfl ?_; clear S a; intro a S
     refine l_off S rfl rfl rfl rfl bc86 rfl rfl ?_; clear S a; intro a S
     refine l_offU S rfl rfl rfl rfl rfl rfl ?_; clear S a; intro a S
     refine l_offU S rfl rfl rfl rfl rfl rfl ?_; clear S a; intro a S
     refine l_offU S rfl rfl rfl rfl rfl rfl ?_; clear S a; intro a S
     refine l_offU S rfl rfl rfl rfl rfl rfl ?_; clear S a; intro a S
     refine l_off S rfl rfl rfl rfl bc86 rfl rfl ?_; clear S a; intro a S
     refine l_pure S (p_pick_f rfl bc86 rfl) rfl rfl rfl ?_; clear S a; intro a S
     refine l_nil ?_
     refine e_then ?_
     refine c_cond (b := false) S rfl (fun h => by cases h) (fun _ => ?_)
     refine wp_skip ?_
     refine e_then ?_
     exact ⟨z, 94, 0, false, S.only ⟨rfl, rfl, rfl, rfl, trivial⟩, H, by rw [← hR]; simp only [uOK1, bc84, bc86, cond_true, cond_false], ⟨hz, by omega⟩⟩
   ·
    have c84 := bc84
    have c84 := of_decide_eq_false c84
    refine l_off S rfl rfl rfl rfl bc84 rfl rfl ?_; clear S a; intro a S
    refine l_off S rfl rfl rfl rfl bc84 rfl rfl ?_; clear S a; intro a S
    refine l_off S rfl rfl rfl rfl bc84 rfl rfl ?_; clear S a; intro a S
    refine l_pure S (p_pick_f rfl bc84 rfl) rfl rfl rfl ?_; clear S a; intro a S
    refine l_mv 1 S rfl ?_; clear S a; intro a S
    refine l_off S rfl rfl rfl rfl rfl rfl rfl ?_; clear S a; intro a S
    refine l_off S rfl rfl rfl rfl rfl rfl rfl ?_; clear S a; intro a S
    refine l_off S rfl rfl rfl rfl rfl rfl rfl ?_; clear S a; intro a S
    refine l_off S rfl rfl rfl rfl rfl rfl rfl ?_; clear S a; intro a S
    refine l_off S rfl rfl rfl rfl rfl rfl rfl ?_; clear S a; intro a S
    refine l_offU S rfl rfl rfl rfl rfl rfl ?_; clear S a; intro a S
    refine l_offU S rfl rfl rfl rfl rfl rfl ?_; clear S a; intro a S
    refine l_offU S rfl rfl rfl rfl rfl rfl ?_; clear S a; intro a S
    refine l_offU S rfl rfl rfl rfl rfl rfl ?_; clear S a; intro a S
    refine l_off S rfl rfl rfl rfl rfl rfl rfl ?_; clear S a; intro a S
    refine l_off S rfl rfl rfl rfl rfl rfl rfl ?_; clear S a; intro a S
    refine l_offU S rfl rfl rfl rfl rfl rfl ?_; clear S a; intro a S
    refine l_offU S rfl rfl rfl rfl rfl rfl ?_; clear S a; intro a S
    refine l_offU S rfl rfl rfl rfl rfl rfl ?_; clear S a; intro a S
    refine l_offU S rfl rfl rfl rfl rfl rfl ?_; clear S a; intro a S
    refine l_off S rfl rfl rfl rfl rfl rfl rfl ?_; clear S a; intro a S
    refine l_pure S (p_pick_f rfl rfl rfl) rfl rfl rfl ?_; clear S a; intro a S
    refine l_nil ?_
    refine e_then ?_
    refine c_cond (b := false) S rfl (fun h => by cases h) (fun _ => ?_)
    refine wp_skip ?_
    refine e_then ?_
    exact ⟨z, 94, 0, false, S.only ⟨rfl, rfl, rfl, rfl, trivial⟩, H, by rw [← hR]; simp only [uOK1, bc84, cond_true, cond_false], ⟨hz, by omega⟩⟩
 ·
  refine wp_seq ?_
  refine c_region ?_
  refine l_mv 1 S rfl ?_; clear S a; intro a S
  refine l_pure S (p_lens Tryz.underlying9 rfl) rfl rfl rfl ?_; clear S a; intro a S
  refine l_pure S (p_geq rfl rfl) rfl rfl rfl ?_; clear S a; intro a S
  refine l_mv 1 S rfl ?_; clear S a; intro a S
  refine l_split (S.of 9 rfl) (fun bc107 => ?_) (fun bc107 => ?_)
  ·
   have c107 := bc107
   have c107 := of_decide_eq_true c107
   refine l_on S rfl rfl rfl rfl bc107 ?_
   refine l_pure S (p_move rfl) rfl rfl rfl ?_; clear S a; intro a S
   refine l_on S rfl rfl rfl rfl bc107 ?_
   refine l_pure S (p_index rfl rfl (fun w => ix_string Tryz.underlying9 (by omega) (by omega))) rfl rfl rfl ?_; clear S a; intro a S
   have := bt_rng s 0
   refine l_on S rfl rfl rfl rfl bc107 ?_
   refine l_pure S (p_eql rfl rfl) rfl rfl rfl ?_; clear S a; intro a S
   refine l_on S rfl rfl rfl rfl bc107 ?_
   refine l_pure S (p_move rfl) rfl rfl rfl ?_; clear S a; intro a S
   refine l_split (S.of 13 rfl) (fun bc109 => ?_) (fun bc109 => ?_)
   ·
    have c109 := bc109
    have c109 := eq_of_beq c109
    refine l_off S rfl rfl rfl rfl bc109 rfl rfl ?_; clear S a; intro a S
    refine l_off S rfl rfl rfl rfl bc109 rfl rfl ?_; clear S a; intro a S
    refine l_off S rfl rfl rfl rfl bc109 rfl rfl ?_; clear S a; intro a S
    refine l_on S rfl rfl rfl rfl bc107 ?_
    refine l_pure S (p_pick_t rfl bc109 rfl) rfl rfl rfl ?_; clear S a; intro a S
    refine l_pure S (p_pick_t rfl bc107 rfl) rfl rfl rfl ?_; clear S a; intro a S
    refine l_nil ?_
    refine e_then ?_
    refine c_cond (b := true) S rfl (fun _ => ?_) (fun h => by cases h)
    refine c_region ?_
    refine l_mv 1 S rfl ?_; clear S a; intro a S
    refine l_pure S (p_slice rfl (o_some rfl) (fun _ _ => o_none) (fun _ _ => o_none) (fun w => sl_string_lo Tryz.underlying9 (by omega) (by omega))) rfl rfl rfl ?_; clear S a; intro a S
    refine l_mv 1 S rfl ?_; clear S a; intro a S
    refine l_nil ?_
    refine e_then ?_
    exact ⟨(s.extract (1 : Int).toNat s.size), S.only ⟨rfl, rfl, rfl, rfl, trivial⟩, H, by rw [← hR]; simp only [uOK, bc107, bc109, cond_true, cond_false], (by first | exact hs | (rw [ByteArray.size_extract]; omega))⟩
   ·
    have c109 := bc109
    have c109 := ne_of_beq_false c109
    refine l_on S rfl rfl rfl rfl bc109 ?_
    refine l_pure S (p_move rfl) rfl rfl rfl ?_; clear S a; intro a S
    refine l_on S rfl rfl rfl rfl bc109 ?_
    refine l_pure S (p_index rfl rfl (fun w => ix_string Tryz.underlying9 (by omega) (by omega))) rfl rfl rfl ?_; clear S a; intro a S
    have := bt_rng s 0
    refine l_on S rfl rfl rfl rfl bc109 ?_
    refine l_pure S (p_eql rfl rfl) rfl rfl rfl ?_; clear S a; intro a S
    refine l_on S rfl rfl rfl rfl bc107 ?_
    refine l_pure S (p_pick_f rfl bc109 rfl) rfl rfl rfl ?_; clear S a; intro a S
    refine l_pure S (p_pick_t rfl bc107 rfl) rfl rfl rfl ?_; clear S a; intro a S
    refine l_nil ?_
    refine e_then ?_
    refine c_cond S rfl (fun bc113 => ?_) (fun bc113 => ?_)
    ·
     have c113 := bc113
     have c113 := eq_of_beq c113
     refine c_region ?_
     refine l_mv 1 S rfl ?_; clear S a; intro a S
     refine l_pure S (p_slice rfl (o_some rfl) (fun _ _ => o_none) (fun _ _ => o_none) (fun w => sl_string_lo Tryz.underlying9 (by omega) (by omega))) rfl rfl rfl ?_; clear S a; intro a S
     refine l_mv 1 S rfl ?_; clear S a; intro a S
     refine l_nil ?_
     refine e_then ?_
     exact ⟨(s.extract (1 : Int).toNat s.size), S.only ⟨rfl, rfl, rfl, rfl, trivial⟩, H, by rw [← hR]; simp only [uOK, bc107, bc109, bc113, cond_true, cond_false], (by first | exact hs | (rw [ByteArray.size_extract]; omega))⟩
    ·
     have c113 := bc113
     have c113 := ne_of_beq_false c113
     refine wp_skip ?_
     refine e_then ?_
     exact ⟨s, S.only ⟨rfl, rfl, rfl, rfl, trivial⟩, H, by rw [← hR]; simp only [uOK, bc107, bc109, bc113, cond_true, cond_false], (by first | exact hs | (rw [ByteArray.size_extract]; omega))⟩
  ·
   have c107 := bc107
   have c107 := of_decide_eq_false c107
   refine l_off S rfl rfl rfl rfl bc107 rfl rfl ?_; clear S a; intro a S
   refine l_off S rfl rfl rfl rfl bc107 rfl rfl ?_; clear S a; intro a S
   refine l_off S rfl rfl rfl rfl bc107 rfl rfl ?_; clear S a; intro a S
   refine l_off S rfl rfl rfl rfl bc107 rfl rfl ?_; clear S a; intro a S
   refine l_offU S rfl rfl rfl rfl rfl rfl ?_; clear S a; intro a S
   refine l_offU S rfl rfl rfl rfl rfl rfl ?_; clear S a; intro a S
   refine l_offU S rfl rfl rfl rfl rfl rfl ?_; clear S a; intro a S
   refine l_off S rfl rfl rfl rfl bc107 rfl rfl ?_; clear S a; intro a S
   refine l_pure S (p_pick_f rfl bc107 rfl) rfl rfl rfl ?_; clear S a; intro a S
   refine l_nil ?_
   refine e_then ?_
   refine c_cond (b := false) S rfl (fun h => by cases h) (fun _ => ?_)
   refine wp_skip ?_
   refine e_then ?_
   exact ⟨s, S.only ⟨rfl, rfl, rfl, rfl, trivial⟩, H, by rw [← hR]; simp only [uOK, bc107, cond_true, cond_false], (by first | exact hs | (rw [ByteArray.size_extract]; omega))⟩
end sm
end Go.Proofs.YtneoieigaakoaaaGreatDoor.pf
end
section
namespace Go.Proofs.YtneoieigaakoaaaGreatDoor.pf
open Go.RowKit Go.Proofs.HHW Go.Proofs.YtneoieigaakoaaaGreatDoorW.PrintWords
namespace rd
def rf9 (s : ByteArray) (mant : BitVec 64) (exp : Int) (neg : Bool) (tr : Bool) (hex : Bool) (i : Int) (und : Bool) : BitVec 64 × Int × Bool × Bool × Bool × Int × Bool := (bif und then (bif (!(sm.uOK (s.extract 0 (i : Int).toNat))) then (mant, exp, neg, tr, hex, i, false) else (mant, exp, neg, tr, hex, i, true)) else (mant, exp, neg, tr, hex, i, true))
def rf6 (s : ByteArray) (mant : BitVec 64) (neg : Bool) (tr : Bool) (hex : Bool) (i : Int) (und : Bool) (ndm : Int) (dp : Int) : BitVec 64 × Int × Bool × Bool × Bool × Int × Bool := (bif (((mant).toNat : Int) != 0) then rf9 s mant (dp - ndm) neg tr hex i und else rf9 s mant 0 neg tr hex i und)
def rf8 (s : ByteArray) (mant : BitVec 64) (neg : Bool) (tr : Bool) (hex : Bool) (i : Int) (und : Bool) (ndm : Int) (dp : Int) (es : Int) (ee : Int) : BitVec 64 × Int × Bool × Bool × Bool × Int × Bool := rf6 s mant neg tr hex i und ndm (dp + (ee * es))
def rfe (s : ByteArray) : Nat → (BitVec 64) → Bool → Bool → Bool → Int → Bool → Int → Int → Int → Int → BitVec 64 × Int × Bool × Bool × Bool × Int × Bool
 | 0, _, _, _, _, _, _, _, _, _, _ => default
 | fu + 1, mant, neg, tr, hex, i, und, ndm, dp, es, ee => (bif (decide (i < ((s.size : Nat) : Int))) then (bif (decide (48 ≤ (HHW.bt s i))) then (bif (decide ((HHW.bt s i) ≤ 57)) then (bif ((HHW.bt s i) == 95) then rfe s fu mant neg tr hex (i + 1) true ndm dp es ee else (bif (decide (ee < 10000)) then rfe s fu mant neg tr hex (i + 1) und ndm dp es (((ee * 10) + (HHW.bt s i)) - 48) else rfe s fu mant neg tr hex (i + 1) und ndm dp es ee)) else (bif ((HHW.bt s i) == 95) then rfe s fu mant neg tr hex (i + 1) true ndm dp es ee else rf8 s mant neg tr hex i und ndm dp es ee)) else (bif ((HHW.bt s i) == 95) then rfe s fu mant neg tr hex (i + 1) true ndm dp es ee else rf8 s mant neg tr hex i und ndm dp es ee)) else rf8 s mant neg tr hex i und ndm dp es ee)
def rf7 (s : ByteArray) (mant : BitVec 64) (neg : Bool) (tr : Bool) (hex : Bool) (i : Int) (und : Bool) (ndm : Int) (dp : Int) (es : Int) : BitVec 64 × Int × Bool × Bool × Bool × Int × Bool := (bif (decide (i ≥ ((s.size : Nat) : Int))) then (mant, 0, neg, tr, hex, i, false) else (bif (decide ((HHW.bt s i) < 48)) then (mant, 0, neg, tr, hex, i, false) else (bif (decide ((HHW.bt s i) > 57)) then (mant, 0, neg, tr, hex, i, false) else rfe s ((((s.size : Int) - i).toNat) + 1) mant neg tr hex i und ndm dp es 0)))
def rf5 (s : ByteArray) (mant : BitVec 64) (neg : Bool) (tr : Bool) (hex : Bool) (i : Int) (und : Bool) (base : BitVec 64) (ech : Int) (ndm : Int) (dp : Int) : BitVec 64 × Int × Bool × Bool × Bool × Int × Bool := (bif (decide (i < ((s.size : Nat) : Int))) then (bif ((lw (HHW.bt s i)) == ech) then (bif (decide ((i + 1) ≥ ((s.size : Nat) : Int))) then (mant, 0, neg, tr, hex, (i + 1), false) else (bif ((HHW.bt s (i + 1)) == 43) then rf7 s mant neg tr hex ((i + 1) + 1) und ndm dp 1 else (bif ((HHW.bt s (i + 1)) == 45) then rf7 s mant neg tr hex ((i + 1) + 1) und ndm dp (-1) else rf7 s mant neg tr hex (i + 1) und ndm dp 1))) else (bif (((base).toNat : Int) == 16) then (mant, 0, neg, tr, hex, i, false) else rf6 s mant neg tr hex i und ndm dp)) else (bif (((base).toNat : Int) == 16) then (mant, 0, neg, tr, hex, i, false) else rf6 s mant neg tr hex i und ndm dp))
def rf4 (s : ByteArray) (mant : BitVec 64) (neg : Bool) (tr : Bool) (hex : Bool) (i : Int) (und : Bool) (base : BitVec 64) (ech : Int) (ndm : Int) (dp : Int) : BitVec 64 × Int × Bool × Bool × Bool × Int × Bool := (bif (((base).toNat : Int) == 16) then rf5 s mant neg tr hex i und base ech (ndm * 4) (dp * 4) else rf5 s mant neg tr hex i und base ech ndm dp)
def rf3 (s : ByteArray) (mant : BitVec 64) (neg : Bool) (tr : Bool) (hex : Bool) (i : Int) (und : Bool) (base : BitVec 64) (ech : Int) (sd : Bool) (sg : Bool) (nd : Int) (ndm : Int) (dp : Int) : BitVec 64 × Int × Bool × Bool × Bool × Int × Bool := (bif (!sg) then (mant, 0, neg, tr, hex, i, false) else (bif (!sd) then rf4 s mant neg tr hex i und base ech ndm nd else rf4 s mant neg tr hex i und base ech ndm dp))
def rfd (s : ByteArray) : Nat → (BitVec 64) → Bool → Bool → Bool → Int → Bool → (BitVec 64) → Int → Int → Bool → Bool → Int → Int → Int → BitVec 64 × Int × Bool × Bool × Bool × Int × Bool
 | 0, _, _, _, _, _, _, _, _, _, _, _, _, _, _ => default
 | fu + 1, mant, neg, tr, hex, i, und, base, mmd, ech, sd, sg, nd, ndm, dp => (bif (decide (i < ((s.size : Nat) : Int))) then (bif (true == ((HHW.bt s i) == 95)) then rfd s fu mant neg tr hex (i + 1) true base mmd ech sd sg nd ndm dp else (bif (true == ((HHW.bt s i) == 46)) then (bif sd then rf3 s mant neg tr hex i und base ech sd sg nd ndm dp else rfd s fu mant neg tr hex (i + 1) und base mmd ech true sg nd ndm nd) else (bif (decide (48 ≤ (HHW.bt s i))) then (bif (true == (decide ((HHW.bt s i) ≤ 57))) then (bif ((HHW.bt s i) == 48) then (bif (nd == 0) then rfd s fu mant neg tr hex (i + 1) und base mmd ech sd true nd ndm (dp - 1) else (bif (decide (ndm < mmd)) then rfd s fu ((mant * base) + (BitVec.ofInt 64 ((HHW.bt s i) - 48))) neg tr hex (i + 1) und base mmd ech sd true (nd + 1) (ndm + 1) dp else (bif ((HHW.bt s i) != 48) then rfd s fu mant neg true hex (i + 1) und base mmd ech sd true (nd + 1) ndm dp else rfd s fu mant neg tr hex (i + 1) und base mmd ech sd true (nd + 1) ndm dp))) else (bif (decide (ndm < mmd)) then rfd s fu ((mant * base) + (BitVec.ofInt 64 ((HHW.bt s i) - 48))) neg tr hex (i + 1) und base mmd ech sd true (nd + 1) (ndm + 1) dp else (bif ((HHW.bt s i) != 48) then rfd s fu mant neg true hex (i + 1) und base mmd ech sd true (nd + 1) ndm dp else rfd s fu mant neg tr hex (i + 1) und base mmd ech sd true (nd + 1) ndm dp))) else (bif (((base).toNat : Int) == 16) then (bif (decide (97 ≤ (lw (HHW.bt s i)))) then (bif (true == (decide ((lw (HHW.bt s i)) ≤ 102))) then (bif (decide (ndm < mmd)) then rfd s fu ((mant * 16#64) + (BitVec.ofInt 64 (((lw (HHW.bt s i)) - 97) + 10))) neg tr hex (i + 1) und base mmd ech sd true (nd + 1) (ndm + 1) dp else rfd s fu mant neg true hex (i + 1) und base mmd ech sd true (nd + 1) ndm dp) else rf3 s mant neg tr hex i und base ech sd sg nd ndm dp) else rf3 s mant neg tr hex i und base ech sd sg nd ndm dp) else rf3 s mant neg tr hex i und base ech sd sg nd ndm dp)) else (bif (((base).toNat : Int) == 16) then (bif (decide (97 ≤ (lw (HHW.bt s i)))) then (bif (true == (decide ((lw (HHW.bt s i)) ≤ 102))) then (bif (decide (ndm < mmd)) then rfd s fu ((mant * 16#64) + (BitVec.ofInt 64 (((lw (HHW.bt s i)) - 97) + 10))) neg tr hex (i + 1) und base mmd ech sd true (nd + 1) (ndm + 1) dp else rfd s fu mant neg true hex (i + 1) und base mmd ech sd true (nd + 1) ndm dp) else rf3 s mant neg tr hex i und base ech sd sg nd ndm dp) else rf3 s mant neg tr hex i und base ech sd sg nd ndm dp) else rf3 s mant neg tr hex i und base ech sd sg nd ndm dp)))) else rf3 s mant neg tr hex i und base ech sd sg nd ndm dp)
def rf2 (s : ByteArray) (neg : Bool) (hex : Bool) (i : Int) (base : BitVec 64) (mmd : Int) (ech : Int) : BitVec 64 × Int × Bool × Bool × Bool × Int × Bool := rfd s ((((s.size : Int) - i).toNat) + 1) (0#64) neg false hex i false base mmd ech false false 0 0 0
def rf1 (s : ByteArray) (neg : Bool) (i : Int) : BitVec 64 × Int × Bool × Bool × Bool × Int × Bool := (bif (decide ((i + 2) < ((s.size : Nat) : Int))) then (bif ((HHW.bt s i) == 48) then (bif ((lw (HHW.bt s (i + 1))) == 120) then rf2 s neg true (i + 2) (16#64) 16 112 else rf2 s neg false i (10#64) 19 101) else rf2 s neg false i (10#64) 19 101) else rf2 s neg false i (10#64) 19 101)
def rf (s : ByteArray) : BitVec 64 × Int × Bool × Bool × Bool × Int × Bool := (bif (decide (0 ≥ ((s.size : Nat) : Int))) then ((0#64), 0, false, false, false, 0, false) else (bif ((HHW.bt s 0) == 43) then rf1 s false 1 else (bif ((HHW.bt s 0) == 45) then rf1 s true 1 else rf1 s false 0)))
set_option maxHeartbeats 2000000 in
theorem rf_ (wb w0 : World) (B : Nat) (L0 : List (Nat × Obj)) (s : ByteArray) (hs : s.size ≤ 1000000) (H : HH B wb w0 L0) : Calls Tryz.prog 53 #[.string s] w0 fun e w' => e = .returned (.tuple #[.int .u64 ((rf s).1.toNat : Int), .int .i64 (rf s).2.1, .bool (rf s).2.2.1, .bool (rf s).2.2.2.1, .bool (rf s).2.2.2.2.1, .int .i64 (rf s).2.2.2.2.2.1, .bool (rf s).2.2.2.2.2.2]) ∧ HH B wb w' L0 ∧ (-6000000 ≤ (rf s).2.1 ∧ (rf s).2.1 ≤ 6000000) ∧ (0 ≤ (rf s).2.2.2.2.2.1 ∧ (rf s).2.2.2.2.2.1 ≤ s.size) := by
 generalize hR : rf s = R
 refine c_enter (args := [.string s]) (k := 252) Tryz.func53 rfl rfl rfl (fun a S => ?_)
 refine wp_seq ?_
 refine c_region ?_
 refine l_mv 7 S rfl ?_; clear S a; intro a S
 refine l_nil ?_
 refine e_then ?_
 refine c_scope ?_
 refine wp_seq ?_
 refine c_region ?_
 refine l_mv 1 S rfl ?_; clear S a; intro a S
 refine l_nil ?_
 refine e_then ?_
 refine wp_seq ?_
 refine wp_seq ?_
 refine c_region ?_
 refine l_mv 2 S rfl ?_; clear S a; intro a S
 refine l_pure S (p_lens Tryz.underlying9 rfl) rfl rfl rfl ?_; clear S a; intro a S
 refine l_pure S (p_geq rfl rfl) rfl rfl rfl ?_; clear S a; intro a S
 refine l_nil ?_
 refine e_then ?_
 refine c_cond S rfl (fun bc7 => ?_) (fun bc7 => ?_)
 ·
  have c7 := bc7
  have c7 := of_decide_eq_true c7
  refine wp_ret ?_
  refine e_then_ret ?_
  refine e_sc_ret ?_
  have eR : R = ((0#64), 0, false, false, false, 0, false) := by rw [← hR]; simp only [rf, bc7, cond_true, cond_false]
  clear hR; subst eR
  exact r_ret7 S rfl rfl rfl rfl rfl rfl rfl rfl ⟨rfl, H, by dsimp only; omega, by dsimp only; omega⟩
 ·
  have c7 := bc7
  have c7 := of_decide_eq_false c7
  refine wp_skip ?_
  refine e_then ?_
  refine c_cut (fun a w => ∃ neg : Bool, ∃ i : Int, SL a 253 [] [(0, .string s), (3, .int .i64 0), (8, .bool false), (2, .int .u64 0), (5, .bool false), (9, .bool false), (6, .bool false), (4, .bool neg), (7, .int .i64 i)] ∧ HH B wb w (L0) ∧ rf1 s neg i = R ∧ ((0 ≤ i ∧ i ≤ s.size))) ?_ ?_
  ·
   clear S a H hR; rintro a w ⟨neg, i, S, H, hR, hinv⟩
   have hi := hinv
   refine wp_seq ?_
   refine c_region ?_
   refine l_mv 1 S rfl ?_; clear S a; intro a S
   refine l_nil ?_
   refine e_then ?_
   refine wp_seq ?_
   refine c_region ?_
   refine l_mv 1 S rfl ?_; clear S a; intro a S
   refine l_nil ?_
   refine e_then ?_
   refine wp_seq ?_
   refine c_region ?_
   refine l_mv 1 S rfl ?_; clear S a; intro a S
   refine l_nil ?_
   refine e_then ?_
   refine c_cut (fun a w => ∃ neg : Bool, ∃ hex : Bool, ∃ i : Int, ∃ base : BitVec 64, ∃ mmd : Int, ∃ ech : Int, SL a 253 [] [(0, .string s), (3, .int .i64 0), (8, .bool false), (2, .int .u64 0), (5, .bool false), (9, .bool false), (4, .bool neg), (6, .bool hex), (7, .int .i64 i), (10, .int .u64 (base.toNat : Int)), (11, .int .i64 mmd), (12, .int .u8 ech)] ∧ HH B wb w (L0) ∧ rf2 s neg hex i base mmd ech = R ∧ ((0 ≤ i ∧ i ≤ s.size) ∧ (0 ≤ mmd ∧ mmd ≤ 19))) ?_ ?_
   ·
    clear S a H hR; rintro a w ⟨neg, hex, i, base, mmd, ech, S, H, hR, hinv⟩
    obtain ⟨hi, hmm⟩ := hinv
    refine wp_seq ?_
    refine c_region ?_
    refine l_mv 1 S rfl ?_; clear S a; intro a S
    refine l_nil ?_
    refine e_then ?_
    refine wp_seq ?_
    refine c_region ?_
    refine l_mv 1 S rfl ?_; clear S a; intro a S
    refine l_nil ?_
    refine e_then ?_
    refine wp_seq ?_
    refine c_region ?_
    refine l_mv 1 S rfl ?_; clear S a; intro a S
    refine l_nil ?_
    refine e_then ?_
    refine wp_seq ?_
    refine c_region ?_
    refine l_mv 1 S rfl ?_; clear S a; intro a S
    refine l_nil ?_
    refine e_then ?_
    refine wp_seq ?_
    refine c_region ?_
    refine l_mv 1 S rfl ?_; clear S a; intro a S
    refine l_nil ?_
    refine e_then ?_
    refine wp_seq ?_
    refine c_label ?_
    refine e_then ?_
    refine c_cut (fun a w => ∃ mant : BitVec 64, ∃ neg : Bool, ∃ tr : Bool, ∃ hex : Bool, ∃ i : Int, ∃ und : Bool, ∃ base : BitVec 64, ∃ ech : Int, ∃ sd : Bool, ∃ sg : Bool, ∃ nd : Int, ∃ ndm : Int, ∃ dp : Int, SL a 253 [] [(0, .string s), (3, .int .i64 0), (8, .bool false), (2, .int .u64 (mant.toNat : Int)), (4, .bool neg), (5, .bool tr), (6, .bool hex), (7, .int .i64 i), (9, .bool und), (10, .int .u64 (base.toNat : Int)), (12, .int .u8 ech), (13, .bool sd), (14, .bool sg), (15, .int .i64 nd), (16, .int .i64 ndm), (17, .int .i64 dp)] ∧ HH B wb w (L0) ∧ rf3 s mant neg tr hex i und base ech sd sg nd ndm dp = R ∧ ((0 ≤ i ∧ i ≤ s.size) ∧ (-i ≤ dp ∧ dp ≤ i) ∧ (0 ≤ nd ∧ nd ≤ i) ∧ (0 ≤ ndm ∧ ndm ≤ 19))) ?_ ?_
    ·
     clear S a H hR; rintro a w ⟨mant, neg, tr, hex, i, und, base, ech, sd, sg, nd, ndm, dp, S, H, hR, hinv⟩
     obtain ⟨hi, hdp, hnd, hnm⟩ := hinv
     refine wp_seq ?_
     refine wp_seq ?_
     refine c_region ?_
     refine l_mv 1 S rfl ?_; clear S a; intro a S
     refine l_pure S (p_not rfl) rfl rfl rfl ?_; clear S a; intro a S
     refine l_nil ?_
     refine e_then ?_
     refine c_cond S rfl (fun bc12 => ?_) (fun bc12 => ?_)
     ·
      have c12 := bc12
      replace c12 := not_eq_true_ c12
      refine wp_ret ?_
      refine e_then_ret ?_
      refine e_sc_ret ?_
      have eR : R = (mant, 0, neg, tr, hex, i, false) := by rw [← hR]; simp only [rf3, bc12, cond_true, cond_false]
      clear hR; subst eR
      exact r_ret7 S rfl rfl rfl rfl rfl rfl rfl rfl ⟨rfl, H, by dsimp only; omega, by dsimp only; omega⟩
     ·
      have c12 := bc12
      replace c12 := not_eq_false_ c12
      refine wp_skip ?_
      refine e_then ?_
      refine c_cut (fun a w => ∃ mant : BitVec 64, ∃ neg : Bool, ∃ tr : Bool, ∃ hex : Bool, ∃ i : Int, ∃ und : Bool, ∃ base : BitVec 64, ∃ ech : Int, ∃ ndm : Int, ∃ dp : Int, SL a 253 [] [(0, .string s), (3, .int .i64 0), (8, .bool false), (2, .int .u64 (mant.toNat : Int)), (4, .bool neg), (5, .bool tr), (6, .bool hex), (7, .int .i64 i), (9, .bool und), (10, .int .u64 (base.toNat : Int)), (12, .int .u8 ech), (16, .int .i64 ndm), (17, .int .i64 dp)] ∧ HH B wb w (L0) ∧ rf4 s mant neg tr hex i und base ech ndm dp = R ∧ ((0 ≤ i ∧ i ≤ s.size) ∧ (-1000000 ≤ dp ∧ dp ≤ 1000000) ∧ (0 ≤ ndm ∧ ndm ≤ 19))) ?_ ?_
      ·
       clear S a H hR; rintro a w ⟨mant, neg, tr, hex, i, und, base, ech, ndm, dp, S, H, hR, hinv⟩
       obtain ⟨hi, hdp, hnm⟩ := hinv
       refine c_cut (fun a w => ∃ mant : BitVec 64, ∃ neg : Bool, ∃ tr : Bool, ∃ hex : Bool, ∃ i : Int, ∃ und : Bool, ∃ base : BitVec 64, ∃ ech : Int, ∃ ndm : Int, ∃ dp : Int, SL a 253 [] [(0, .string s), (3, .int .i64 0), (8, .bool false), (2, .int .u64 (mant.toNat : Int)), (4, .bool neg), (5, .bool tr), (6, .bool hex), (7, .int .i64 i), (9, .bool und), (10, .int .u64 (base.toNat : Int)), (12, .int .u8 ech), (16, .int .i64 ndm), (17, .int .i64 dp)] ∧ HH B wb w (L0) ∧ rf5 s mant neg tr hex i und base ech ndm dp = R ∧ ((0 ≤ i ∧ i ≤ s.size) ∧ (-4000000 ≤ dp ∧ dp ≤ 4000000) ∧ (0 ≤ ndm ∧ ndm ≤ 100))) ?_ ?_
       ·
        clear S a H hR; rintro a w ⟨mant, neg, tr, hex, i, und, base, ech, ndm, dp, S, H, hR, hinv⟩
        obtain ⟨hi, hdp, hnm⟩ := hinv
        refine c_cut (fun a w => ∃ mant : BitVec 64, ∃ neg : Bool, ∃ tr : Bool, ∃ hex : Bool, ∃ i : Int, ∃ und : Bool, ∃ ndm : Int, ∃ dp : Int, SL a 253 [] [(0, .string s), (3, .int .i64 0), (8, .bool false), (2, .int .u64 (mant.toNat : Int)), (4, .bool neg), (5, .bool tr), (6, .bool hex), (7, .int .i64 i), (9, .bool und), (16, .int .i64 ndm), (17, .int .i64 dp)] ∧ HH B wb w (L0) ∧ rf6 s mant neg tr hex i und ndm dp = R ∧ ((0 ≤ i ∧ i ≤ s.size) ∧ (-5000000 ≤ dp ∧ dp ≤ 5000000) ∧ (0 ≤ ndm ∧ ndm ≤ 100))) ?_ ?_
        ·
         clear S a H hR; rintro a w ⟨mant, neg, tr, hex, i, und, ndm, dp, S, H, hR, hinv⟩
         obtain ⟨hi, hdp, hnm⟩ := hinv
         refine c_cut (fun a w => ∃ mant : BitVec 64, ∃ exp : Int, ∃ neg : Bool, ∃ tr : Bool, ∃ hex : Bool, ∃ i : Int, ∃ und : Bool, SL a 253 [] [(0, .string s), (8, .bool false), (2, .int .u64 (mant.toNat : Int)), (3, .int .i64 exp), (4, .bool neg), (5, .bool tr), (6, .bool hex), (7, .int .i64 i), (9, .bool und)] ∧ HH B wb w (L0) ∧ rf9 s mant exp neg tr hex i und = R ∧ ((0 ≤ i ∧ i ≤ s.size) ∧ (-6000000 ≤ exp ∧ exp ≤ 6000000))) ?_ ?_
         ·
          clear S a H hR; rintro a w ⟨mant, exp, neg, tr, hex, i, und, S, H, hR, hinv⟩
          obtain ⟨hi, hexp⟩ := hinv
          refine wp_seq ?_
          refine wp_seq ?_
          refine c_region ?_
          refine l_mv 2 S rfl ?_; clear S a; intro a S
          refine l_split (S.of 246 rfl) (fun bc14 => ?_) (fun bc14 => ?_)
          ·
           refine l_on S rfl rfl rfl rfl bc14 ?_
           refine l_pure S (p_move rfl) rfl rfl rfl ?_; clear S a; intro a S
           refine l_on S rfl rfl rfl rfl bc14 ?_
           refine l_pure S (p_move rfl) rfl rfl rfl ?_; clear S a; intro a S
           refine l_on S rfl rfl rfl rfl bc14 ?_
           refine l_pure S (p_slice rfl (fun _ _ => o_none) (o_some rfl) (fun _ _ => o_none) (fun w => sl_string_hi Tryz.underlying9 (by omega) (by omega))) rfl rfl rfl ?_; clear S a; intro a S
           refine l_on S rfl rfl rfl rfl bc14 ?_
           have hcon := sm.uOK_ wb _ B _ (s.extract 0 (i : Int).toNat) (by rw [ByteArray.size_extract]; omega) H
           refine l_call S rfl rfl Tryz.func67 rfl rfl (hcon) rfl rfl rfl ?_
           rintro e w ⟨rfl, hH⟩
           refine ⟨_, rfl, ?_⟩; clear S a; intro a S
           clear H hcon; have H := hH; clear hH
           refine l_on S rfl rfl rfl rfl bc14 ?_
           refine l_pure S (p_not rfl) rfl rfl rfl ?_; clear S a; intro a S
           refine l_pure S (p_pick_t rfl bc14 rfl) rfl rfl rfl ?_; clear S a; intro a S
           refine l_nil ?_
           refine e_then ?_
           refine c_cond S rfl (fun bc17 => ?_) (fun bc17 => ?_)
           ·
            have c17 := bc17
            replace c17 := not_eq_true_ c17
            refine wp_ret ?_
            refine e_then_ret ?_
            refine e_sc_ret ?_
            have eR : R = (mant, exp, neg, tr, hex, i, false) := by rw [← hR]; simp only [rf9, bc14, bc17, cond_true, cond_false]
            clear hR; subst eR
            exact r_ret7 S rfl rfl rfl rfl rfl rfl rfl rfl ⟨rfl, H, by dsimp only; omega, by dsimp only; omega⟩
           ·
            have c17 := bc17
            replace c17 := not_eq_false_ c17
            refine wp_skip ?_
            refine e_then ?_
            refine wp_seq ?_
            refine c_region ?_
            refine l_mv 1 S rfl ?_; clear S a; intro a S
            refine l_nil ?_
            refine e_then ?_
            refine wp_ret ?_
            refine e_sc_ret ?_
            have eR : R = (mant, exp, neg, tr, hex, i, true) := by rw [← hR]; simp only [rf9, bc14, bc17, cond_true, cond_false]
            clear hR; subst eR
            exact r_ret7 S rfl rfl rfl rfl rfl rfl rfl rfl ⟨rfl, H, by dsimp only; omega, by dsimp only; omega⟩
          ·
           refine l_off S rfl rfl rfl rfl bc14 rfl rfl ?_; clear S a; intro a S
           refine l_off S rfl rfl rfl rfl bc14 rfl rfl ?_; clear S a; intro a S
           refine l_off S rfl rfl rfl rfl bc14 rfl rfl ?_; clear S a; intro a S
           refine l_off S rfl rfl rfl rfl bc14 rfl rfl ?_; clear S a; intro a S
           refine l_off S rfl rfl rfl rfl bc14 rfl rfl ?_; clear S a; intro a S
           refine l_pure S (p_pick_f rfl bc14 rfl) rfl rfl rfl ?_; clear S a; intro a S
           refine l_nil ?_
           refine e_then ?_
           refine c_cond (b := false) S rfl (fun h => by cases h) (fun _ => ?_)
           refine wp_skip ?_
           refine e_then ?_
           refine wp_seq ?_
           refine c_region ?_
           refine l_mv 1 S rfl ?_; clear S a; intro a S
           refine l_nil ?_
           refine e_then ?_
           refine wp_ret ?_
           refine e_sc_ret ?_
           have eR : R = (mant, exp, neg, tr, hex, i, true) := by rw [← hR]; simp only [rf9, bc14, cond_true, cond_false]
           clear hR; subst eR
           exact r_ret7 S rfl rfl rfl rfl rfl rfl rfl rfl ⟨rfl, H, by dsimp only; omega, by dsimp only; omega⟩
         ·
          refine wp_seq ?_
          refine c_region ?_
          refine l_mv 1 S rfl ?_; clear S a; intro a S
          refine l_pure S (p_neq rfl rfl) rfl rfl rfl ?_; clear S a; intro a S
          refine l_nil ?_
          refine e_then ?_
          refine c_cond S rfl (fun bc23 => ?_) (fun bc23 => ?_)
          ·
           have c23 := bc23
           have c23 := bne_iff_ne.1 c23
           refine c_region ?_
           refine l_mv 2 S rfl ?_; clear S a; intro a S
           refine l_pure S (p_sub (r := (dp - ndm)) rfl rfl (IntWalk.i64_in _ (by omega))) rfl rfl rfl ?_; clear S a; intro a S
           refine l_mv 1 S rfl ?_; clear S a; intro a S
           refine l_nil ?_
           refine e_then ?_
           exact ⟨mant, (dp - ndm), neg, tr, hex, i, und, S.only ⟨rfl, rfl, rfl, rfl, rfl, rfl, rfl, rfl, rfl, trivial⟩, H, by rw [← hR]; simp only [rf6, bc23, cond_true, cond_false], ⟨by omega, by omega⟩⟩
          ·
           have c23 := bc23
           have c23 := bne_eq_false_iff_eq.1 c23
           refine wp_skip ?_
           refine e_then ?_
           exact ⟨mant, 0, neg, tr, hex, i, und, S.only ⟨rfl, rfl, rfl, rfl, rfl, rfl, rfl, rfl, rfl, trivial⟩, H, by rw [← hR]; simp only [rf6, bc23, cond_true, cond_false], ⟨by omega, by omega⟩⟩
        ·
         refine wp_seq ?_
         refine c_region ?_
         refine l_mv 2 S rfl ?_; clear S a; intro a S
         refine l_pure S (p_lens Tryz.underlying9 rfl) rfl rfl rfl ?_; clear S a; intro a S
         refine l_pure S (p_lss rfl rfl) rfl rfl rfl ?_; clear S a; intro a S
         refine l_mv 1 S rfl ?_; clear S a; intro a S
         refine l_split (S.of 154 rfl) (fun bc25 => ?_) (fun bc25 => ?_)
         ·
          have c25 := bc25
          have c25 := of_decide_eq_true c25
          refine l_on S rfl rfl rfl rfl bc25 ?_
          refine l_pure S (p_move rfl) rfl rfl rfl ?_; clear S a; intro a S
          refine l_on S rfl rfl rfl rfl bc25 ?_
          refine l_pure S (p_move rfl) rfl rfl rfl ?_; clear S a; intro a S
          refine l_on S rfl rfl rfl rfl bc25 ?_
          refine l_pure S (p_index rfl rfl (fun w => ix_string Tryz.underlying9 (by omega) (by omega))) rfl rfl rfl ?_; clear S a; intro a S
          have := bt_rng s i
          refine l_on S rfl rfl rfl rfl bc25 ?_
          have := lw_range (HHW.bt s i) (by omega)
          have hcon := sm.lower_ wb _ B _ (HHW.bt s i) H
          refine l_call S rfl rfl Tryz.func66 rfl rfl (hcon) rfl rfl rfl ?_
          rintro e w ⟨rfl, hH⟩
          refine ⟨_, rfl, ?_⟩; clear S a; intro a S
          clear H hcon; have H := hH; clear hH
          refine l_on S rfl rfl rfl rfl bc25 ?_
          refine l_pure S (p_move rfl) rfl rfl rfl ?_; clear S a; intro a S
          refine l_on S rfl rfl rfl rfl bc25 ?_
          refine l_pure S (p_eql rfl rfl) rfl rfl rfl ?_; clear S a; intro a S
          refine l_pure S (p_pick_t rfl bc25 rfl) rfl rfl rfl ?_; clear S a; intro a S
          refine l_nil ?_
          refine e_then ?_
          refine c_cond S rfl (fun bc27 => ?_) (fun bc27 => ?_)
          ·
           have c27 := bc27
           have c27 := eq_of_beq c27
           refine wp_seq ?_
           refine c_region ?_
           refine l_mv 1 S rfl ?_; clear S a; intro a S
           refine l_pure S (p_add (r := (i + 1)) rfl rfl (IntWalk.i64_in _ (by omega))) rfl rfl rfl ?_; clear S a; intro a S
           refine l_mv 1 S rfl ?_; clear S a; intro a S
           refine l_nil ?_
           refine e_then ?_
           refine wp_seq ?_
           refine wp_seq ?_
           refine c_region ?_
           refine l_mv 2 S rfl ?_; clear S a; intro a S
           refine l_pure S (p_lens Tryz.underlying9 rfl) rfl rfl rfl ?_; clear S a; intro a S
           refine l_pure S (p_geq rfl rfl) rfl rfl rfl ?_; clear S a; intro a S
           refine l_nil ?_
           refine e_then ?_
           refine c_cond S rfl (fun bc29 => ?_) (fun bc29 => ?_)
           ·
            have c29 := bc29
            have c29 := of_decide_eq_true c29
            refine wp_ret ?_
            refine e_then_ret ?_
            refine e_then_ret ?_
            refine e_sc_ret ?_
            have eR : R = (mant, 0, neg, tr, hex, (i + 1), false) := by rw [← hR]; simp only [rf5, bc25, bc27, bc29, cond_true, cond_false]
            clear hR; subst eR
            exact r_ret7 S rfl rfl rfl rfl rfl rfl rfl rfl ⟨rfl, H, by dsimp only; omega, by dsimp only; omega⟩
           ·
            have c29 := bc29
            have c29 := of_decide_eq_false c29
            refine wp_skip ?_
            refine e_then ?_
            refine wp_seq ?_
            refine c_region ?_
            refine l_mv 1 S rfl ?_; clear S a; intro a S
            refine l_nil ?_
            refine e_then ?_
            refine c_cut (fun a w => ∃ mant : BitVec 64, ∃ neg : Bool, ∃ tr : Bool, ∃ hex : Bool, ∃ i : Int, ∃ und : Bool, ∃ ndm : Int, ∃ dp : Int, ∃ es : Int, SL a 253 [] [(0, .string s), (3, .int .i64 0), (8, .bool false), (2, .int .u64 (mant.toNat : Int)), (4, .bool neg), (5, .bool tr), (6, .bool hex), (7, .int .i64 i), (9, .bool und), (16, .int .i64 ndm), (17, .int .i64 dp), (19, .int .i64 es)] ∧ HH B wb w (L0) ∧ rf7 s mant neg tr hex i und ndm dp es = R ∧ ((0 ≤ i ∧ i ≤ s.size) ∧ (-4000000 ≤ dp ∧ dp ≤ 4000000) ∧ (0 ≤ ndm ∧ ndm ≤ 100) ∧ (es = 1 ∨ es = -1))) ?_ ?_
            ·
             clear S a H hR; rintro a w ⟨mant, neg, tr, hex, i, und, ndm, dp, es, S, H, hR, hinv⟩
             obtain ⟨hi, hdp, hnm, hes⟩ := hinv
             refine wp_seq ?_
             refine wp_seq ?_
             refine c_region ?_
             refine l_mv 2 S rfl ?_; clear S a; intro a S
             refine l_pure S (p_lens Tryz.underlying9 rfl) rfl rfl rfl ?_; clear S a; intro a S
             refine l_pure S (p_geq rfl rfl) rfl rfl rfl ?_; clear S a; intro a S
             refine l_mv 1 S rfl ?_; clear S a; intro a S
             refine l_split (S.of 183 rfl) (fun bc31 => ?_) (fun bc31 => ?_)
             ·
              have c31 := bc31
              have c31 := of_decide_eq_true c31
              refine l_off S rfl rfl rfl rfl bc31 rfl rfl ?_; clear S a; intro a S
              refine l_off S rfl rfl rfl rfl bc31 rfl rfl ?_; clear S a; intro a S
              refine l_off S rfl rfl rfl rfl bc31 rfl rfl ?_; clear S a; intro a S
              refine l_off S rfl rfl rfl rfl bc31 rfl rfl ?_; clear S a; intro a S
              refine l_pure S (p_pick_t rfl bc31 rfl) rfl rfl rfl ?_; clear S a; intro a S
              refine l_mv 1 S rfl ?_; clear S a; intro a S
              refine l_off S rfl rfl rfl rfl rfl rfl rfl ?_; clear S a; intro a S
              refine l_off S rfl rfl rfl rfl rfl rfl rfl ?_; clear S a; intro a S
              refine l_off S rfl rfl rfl rfl rfl rfl rfl ?_; clear S a; intro a S
              refine l_off S rfl rfl rfl rfl rfl rfl rfl ?_; clear S a; intro a S
              refine l_pure S (p_pick_t rfl rfl rfl) rfl rfl rfl ?_; clear S a; intro a S
              refine l_nil ?_
              refine e_then ?_
              refine c_cond (b := true) S rfl (fun _ => ?_) (fun h => by cases h)
              refine wp_ret ?_
              refine e_then_ret ?_
              refine e_then_ret ?_
              refine e_sc_ret ?_
              have eR : R = (mant, 0, neg, tr, hex, i, false) := by rw [← hR]; simp only [rf7, bc31, cond_true, cond_false]
              clear hR; subst eR
              exact r_ret7 S rfl rfl rfl rfl rfl rfl rfl rfl ⟨rfl, H, by dsimp only; omega, by dsimp only; omega⟩
             ·
              have c31 := bc31
              have c31 := of_decide_eq_false c31
              refine l_on S rfl rfl rfl rfl bc31 ?_
              refine l_pure S (p_move rfl) rfl rfl rfl ?_; clear S a; intro a S
              refine l_on S rfl rfl rfl rfl bc31 ?_
              refine l_pure S (p_move rfl) rfl rfl rfl ?_; clear S a; intro a S
              refine l_on S rfl rfl rfl rfl bc31 ?_
              refine l_pure S (p_index rfl rfl (fun w => ix_string Tryz.underlying9 (by omega) (by omega))) rfl rfl rfl ?_; clear S a; intro a S
              have := bt_rng s i
              refine l_on S rfl rfl rfl rfl bc31 ?_
              refine l_pure S (p_lss rfl rfl) rfl rfl rfl ?_; clear S a; intro a S
              refine l_pure S (p_pick_f rfl bc31 rfl) rfl rfl rfl ?_; clear S a; intro a S
              refine l_mv 1 S rfl ?_; clear S a; intro a S
              refine l_split (S.of 189 rfl) (fun bc36 => ?_) (fun bc36 => ?_)
              ·
               have c36 := bc36
               have c36 := of_decide_eq_true c36
               refine l_off S rfl rfl rfl rfl bc36 rfl rfl ?_; clear S a; intro a S
               refine l_off S rfl rfl rfl rfl bc36 rfl rfl ?_; clear S a; intro a S
               refine l_off S rfl rfl rfl rfl bc36 rfl rfl ?_; clear S a; intro a S
               refine l_off S rfl rfl rfl rfl bc36 rfl rfl ?_; clear S a; intro a S
               refine l_pure S (p_pick_t rfl bc36 rfl) rfl rfl rfl ?_; clear S a; intro a S
               refine l_nil ?_
               refine e_then ?_
               refine c_cond (b := true) S rfl (fun _ => ?_) (fun h => by cases h)
               refine wp_ret ?_
               refine e_then_ret ?_
               refine e_then_ret ?_
               refine e_sc_ret ?_
               have eR : R = (mant, 0, neg, tr, hex, i, false) := by rw [← hR]; simp only [rf7, bc31, bc36, cond_true, cond_false]
               clear hR; subst eR
               exact r_ret7 S rfl rfl rfl rfl rfl rfl rfl rfl ⟨rfl, H, by dsimp only; omega, by dsimp only; omega⟩
              ·
               have c36 := bc36
               have c36 := of_decide_eq_false c36
               refine l_on S rfl rfl rfl rfl bc36 ?_
               refine l_pure S (p_move rfl) rfl rfl rfl ?_; clear S a; intro a S
               refine l_on S rfl rfl rfl rfl bc36 ?_
               refine l_pure S (p_move rfl) rfl rfl rfl ?_; clear S a; intro a S
               refine l_on S rfl rfl rfl rfl bc36 ?_
               refine l_pure S (p_index rfl rfl (fun w => ix_string Tryz.underlying9 (by omega) (by omega))) rfl rfl rfl ?_; clear S a; intro a S
               have := bt_rng s i
               refine l_on S rfl rfl rfl rfl bc36 ?_
               refine l_pure S (p_gtr rfl rfl) rfl rfl rfl ?_; clear S a; intro a S
               refine l_pure S (p_pick_f rfl bc36 rfl) rfl rfl rfl ?_; clear S a; intro a S
               refine l_nil ?_
               refine e_then ?_
               refine c_cond S rfl (fun bc40 => ?_) (fun bc40 => ?_)
               ·
                have c40 := bc40
                have c40 := of_decide_eq_true c40
                refine wp_ret ?_
                refine e_then_ret ?_
                refine e_then_ret ?_
                refine e_sc_ret ?_
                have eR : R = (mant, 0, neg, tr, hex, i, false) := by rw [← hR]; simp only [rf7, bc31, bc36, bc40, cond_true, cond_false]
                clear hR; subst eR
                exact r_ret7 S rfl rfl rfl rfl rfl rfl rfl rfl ⟨rfl, H, by dsimp only; omega, by dsimp only; omega⟩
               ·
                have c40 := bc40
                have c40 := of_decide_eq_false c40
                refine wp_skip ?_
                refine e_then ?_
                refine wp_seq ?_
                refine c_region ?_
                refine l_mv 1 S rfl ?_; clear S a; intro a S
                refine l_nil ?_
                refine e_then ?_
                refine c_cut (fun a w => ∃ mant : BitVec 64, ∃ neg : Bool, ∃ tr : Bool, ∃ hex : Bool, ∃ i : Int, ∃ und : Bool, ∃ ndm : Int, ∃ dp : Int, ∃ es : Int, ∃ ee : Int, SL a 253 [] [(0, .string s), (3, .int .i64 0), (8, .bool false), (2, .int .u64 (mant.toNat : Int)), (4, .bool neg), (5, .bool tr), (6, .bool hex), (7, .int .i64 i), (9, .bool und), (16, .int .i64 ndm), (17, .int .i64 dp), (19, .int .i64 es), (20, .int .i64 ee)] ∧ HH B wb w (L0) ∧ rf8 s mant neg tr hex i und ndm dp es ee = R ∧ ((0 ≤ i ∧ i ≤ s.size) ∧ (-4000000 ≤ dp ∧ dp ≤ 4000000) ∧ (0 ≤ ndm ∧ ndm ≤ 100) ∧ (es = 1 ∨ es = -1) ∧ (0 ≤ ee ∧ ee ≤ 200000))) ?_ ?_
                ·
                 clear S a H hR; rintro a w ⟨mant, neg, tr, hex, i, und, ndm, dp, es, ee, S, H, hR, hinv⟩
                 obtain ⟨hi, hdp, hnm, hes, hee⟩ := hinv
                 have hmb := mul_bd hee hes
                 refine c_region ?_
                 refine l_mv 3 S rfl ?_; clear S a; intro a S
                 refine l_pure S (p_mul (r := (ee * es)) rfl rfl (IntWalk.i64_in _ (by omega))) rfl rfl rfl ?_; clear S a; intro a S
                 refine l_pure S (p_add (r := (dp + (ee * es))) rfl rfl (IntWalk.i64_in _ (by omega))) rfl rfl rfl ?_; clear S a; intro a S
                 refine l_mv 1 S rfl ?_; clear S a; intro a S
                 refine l_nil ?_
                 refine e_then ?_
                 exact ⟨mant, neg, tr, hex, i, und, ndm, (dp + (ee * es)), S.only ⟨rfl, rfl, rfl, rfl, rfl, rfl, rfl, rfl, rfl, rfl, rfl, trivial⟩, H, by rw [← hR]; simp only [rf8, cond_true, cond_false], ⟨by omega, by omega, by omega⟩⟩
                ·
                 refine wp_block ?_
                 refine c_loop (σ := Nat × (BitVec 64) × Bool × Bool × Bool × Int × Bool × Int × Int × Int × Int) (fun s_ a w => match s_ with | (k_, mant, neg, tr, hex, i, und, ndm, dp, es, ee) => SL a 253 [] [(0, .string s), (3, .int .i64 0), (8, .bool false), (2, .int .u64 (mant.toNat : Int)), (4, .bool neg), (5, .bool tr), (6, .bool hex), (7, .int .i64 i), (9, .bool und), (16, .int .i64 ndm), (17, .int .i64 dp), (19, .int .i64 es), (20, .int .i64 ee)] ∧ HH B wb w (L0) ∧ (rfe s k_ mant neg tr hex i und ndm dp es ee = R ∧ ((s.size : Int) - i).toNat < k_ ∧ ((0 ≤ i ∧ i ≤ s.size) ∧ (-4000000 ≤ dp ∧ dp ≤ 4000000) ∧ (0 ≤ ndm ∧ ndm ≤ 100) ∧ (es = 1 ∨ es = -1) ∧ (0 ≤ ee ∧ ee ≤ 200000)))) (fun s_ => s_.1) ((((s.size : Int) - i).toNat) + 1, mant, neg, tr, hex, i, und, ndm, dp, es, 0) ⟨S.only ⟨rfl, rfl, rfl, rfl, rfl, rfl, rfl, rfl, rfl, rfl, rfl, rfl, rfl, trivial⟩, H, by rw [← hR]; simp only [rf7, bc31, bc36, bc40, cond_true, cond_false], by omega, ⟨by omega, by omega, by omega, hes, by omega⟩⟩ ?_
                 clear S a H hR; rintro ⟨fu, mant, neg, tr, hex, i, und, ndm, dp, es, ee⟩ a w ⟨S, H, hR, hk, hinv⟩
                 obtain ⟨fu, rfl⟩ : ∃ j, fu = j + 1 := ⟨fu - 1, by omega⟩
                 obtain ⟨hi, hdp, hnm, hes, hee⟩ := hinv
                 refine wp_seq ?_
                 refine wp_seq ?_
                 refine c_region ?_
                 refine l_mv 2 S rfl ?_; clear S a; intro a S
                 refine l_pure S (p_lens Tryz.underlying9 rfl) rfl rfl rfl ?_; clear S a; intro a S
                 refine l_pure S (p_lss rfl rfl) rfl rfl rfl ?_; clear S a; intro a S
                 refine l_mv 1 S rfl ?_; clear S a; intro a S
                 refine l_split (S.of 199 rfl) (fun bc42 => ?_) (fun bc42 => ?_)
                 ·
                  have c42 := bc42
                  have c42 := of_decide_eq_true c42
                  refine l_on S rfl rfl rfl rfl bc42 ?_
                  refine l_pure S (p_move rfl) rfl rfl rfl ?_; clear S a; intro a S
                  refine l_on S rfl rfl rfl rfl bc42 ?_
                  refine l_pure S (p_move rfl) rfl rfl rfl ?_; clear S a; intro a S
                  refine l_on S rfl rfl rfl rfl bc42 ?_
                  refine l_pure S (p_index rfl rfl (fun w => ix_string Tryz.underlying9 (by omega) (by omega))) rfl rfl rfl ?_; clear S a; intro a S
                  have := bt_rng s i
                  refine l_on S rfl rfl rfl rfl bc42 ?_
                  refine l_pure S (p_leq rfl rfl) rfl rfl rfl ?_; clear S a; intro a S
                  refine l_on S rfl rfl rfl rfl bc42 ?_
                  refine l_pure S (p_move rfl) rfl rfl rfl ?_; clear S a; intro a S
                  refine l_split (S.of 204 rfl) (fun bc44 => ?_) (fun bc44 => ?_)
                  ·
                   have c44 := bc44
                   have c44 := of_decide_eq_true c44
                   refine l_on S rfl rfl rfl rfl bc44 ?_
                   refine l_pure S (p_move rfl) rfl rfl rfl ?_; clear S a; intro a S
                   refine l_on S rfl rfl rfl rfl bc44 ?_
                   refine l_pure S (p_move rfl) rfl rfl rfl ?_; clear S a; intro a S
                   refine l_on S rfl rfl rfl rfl bc44 ?_
                   refine l_pure S (p_index rfl rfl (fun w => ix_string Tryz.underlying9 (by omega) (by omega))) rfl rfl rfl ?_; clear S a; intro a S
                   have := bt_rng s i
                   refine l_on S rfl rfl rfl rfl bc44 ?_
                   refine l_pure S (p_leq rfl rfl) rfl rfl rfl ?_; clear S a; intro a S
                   refine l_on S rfl rfl rfl rfl bc42 ?_
                   refine l_pure S (p_pick_t rfl bc44 rfl) rfl rfl rfl ?_; clear S a; intro a S
                   refine l_on S rfl rfl rfl rfl bc42 ?_
                   refine l_pure S (p_move rfl) rfl rfl rfl ?_; clear S a; intro a S
                   refine l_split (S.of 210 rfl) (fun bc46 => ?_) (fun bc46 => ?_)
                   ·
                    have c46 := bc46
                    have c46 := of_decide_eq_true c46
                    refine l_off S rfl rfl rfl rfl bc46 rfl rfl ?_; clear S a; intro a S
                    refine l_off S rfl rfl rfl rfl bc46 rfl rfl ?_; clear S a; intro a S
                    refine l_off S rfl rfl rfl rfl bc46 rfl rfl ?_; clear S a; intro a S
                    refine l_off S rfl rfl rfl rfl bc46 rfl rfl ?_; clear S a; intro a S
                    refine l_on S rfl rfl rfl rfl bc42 ?_
                    refine l_pure S (p_pick_t rfl bc46 rfl) rfl rfl rfl ?_; clear S a; intro a S
                    refine l_pure S (p_pick_t rfl bc42 rfl) rfl rfl rfl ?_; clear S a; intro a S
                    refine l_nil ?_
                    refine e_then ?_
                    refine c_cond (b := true) S rfl (fun _ => ?_) (fun h => by cases h)
                    refine wp_skip ?_
                    refine e_then ?_
                    refine wp_seq ?_
                    refine wp_block ?_
                    refine wp_seq ?_
                    refine wp_seq ?_
                    refine c_region ?_
                    refine l_mv 2 S rfl ?_; clear S a; intro a S
                    refine l_pure S (p_index rfl rfl (fun w => ix_string Tryz.underlying9 (by omega) (by omega))) rfl rfl rfl ?_; clear S a; intro a S
                    have := bt_rng s i
                    refine l_pure S (p_eql rfl rfl) rfl rfl rfl ?_; clear S a; intro a S
                    refine l_nil ?_
                    refine e_then ?_
                    refine c_cond S rfl (fun bc50 => ?_) (fun bc50 => ?_)
                    ·
                     have c50 := bc50
                     have c50 := eq_of_beq c50
                     refine wp_seq ?_
                     refine c_region ?_
                     refine l_mv 1 S rfl ?_; clear S a; intro a S
                     refine l_nil ?_
                     refine e_then ?_
                     refine wp_exit ?_
                     refine e_then_exit ?_
                     refine e_in_exit ?_
                     refine e_then ?_
                     refine c_region ?_
                     refine l_mv 1 S rfl ?_; clear S a; intro a S
                     refine l_pure S (p_add (r := (i + 1)) rfl rfl (IntWalk.i64_in _ (by omega))) rfl rfl rfl ?_; clear S a; intro a S
                     refine l_mv 1 S rfl ?_; clear S a; intro a S
                     refine l_nil ?_
                     refine e_then ?_
                     exact ⟨(fu, mant, neg, tr, hex, (i + 1), true, ndm, dp, es, ee), ⟨S.only ⟨rfl, rfl, rfl, rfl, rfl, rfl, rfl, rfl, rfl, rfl, rfl, rfl, rfl, trivial⟩, H, by rw [← hR]; simp only [rfe, bc42, bc44, bc46, bc50, cond_true, cond_false], by omega, ⟨by omega, by omega, by omega, hes, by omega⟩⟩, Nat.lt_succ_self fu⟩
                    ·
                     have c50 := bc50
                     have c50 := ne_of_beq_false c50
                     refine wp_skip ?_
                     refine e_then ?_
                     refine wp_seq ?_
                     refine c_region ?_
                     refine l_mv 1 S rfl ?_; clear S a; intro a S
                     refine l_pure S (p_lss rfl rfl) rfl rfl rfl ?_; clear S a; intro a S
                     refine l_nil ?_
                     refine e_then ?_
                     refine c_cond S rfl (fun bc53 => ?_) (fun bc53 => ?_)
                     ·
                      have c53 := bc53
                      have c53 := of_decide_eq_true c53
                      refine c_region ?_
                      refine l_mv 1 S rfl ?_; clear S a; intro a S
                      refine l_pure S (p_mul (r := (ee * 10)) rfl rfl (IntWalk.i64_in _ (by omega))) rfl rfl rfl ?_; clear S a; intro a S
                      refine l_mv 2 S rfl ?_; clear S a; intro a S
                      refine l_pure S (p_index rfl rfl (fun w => ix_string Tryz.underlying9 (by omega) (by omega))) rfl rfl rfl ?_; clear S a; intro a S
                      have := bt_rng s i
                      refine l_pure S (p_conv rfl (fun w => cv_int (Tryz.underlying5) (Tryz.underlying3) (r := (HHW.bt s i)) (IntWalk.i64_in _ (by omega)))) rfl rfl rfl ?_; clear S a; intro a S
                      refine l_pure S (p_add (r := ((ee * 10) + (HHW.bt s i))) rfl rfl (IntWalk.i64_in _ (by omega))) rfl rfl rfl ?_; clear S a; intro a S
                      refine l_pure S (p_sub (r := (((ee * 10) + (HHW.bt s i)) - 48)) rfl rfl (IntWalk.i64_in _ (by omega))) rfl rfl rfl ?_; clear S a; intro a S
                      refine l_mv 1 S rfl ?_; clear S a; intro a S
                      refine l_nil ?_
                      refine e_in 6 ?_
                      refine e_then ?_
                      refine c_region ?_
                      refine l_mv 1 S rfl ?_; clear S a; intro a S
                      refine l_pure S (p_add (r := (i + 1)) rfl rfl (IntWalk.i64_in _ (by omega))) rfl rfl rfl ?_; clear S a; intro a S
                      refine l_mv 1 S rfl ?_; clear S a; intro a S
                      refine l_nil ?_
                      refine e_then ?_
                      exact ⟨(fu, mant, neg, tr, hex, (i + 1), und, ndm, dp, es, (((ee * 10) + (HHW.bt s i)) - 48)), ⟨S.only ⟨rfl, rfl, rfl, rfl, rfl, rfl, rfl, rfl, rfl, rfl, rfl, rfl, rfl, trivial⟩, H, by rw [← hR]; simp only [rfe, bc42, bc44, bc46, bc50, bc53, cond_true, cond_false], by omega, ⟨by omega, by omega, by omega, hes, by omega⟩⟩, Nat.lt_succ_self fu⟩
                     ·
                      have c53 := bc53
                      have c53 := of_decide_eq_false c53
                      refine wp_skip ?_
                      refine e_in 6 ?_
                      refine e_then ?_
                      refine c_region ?_
                      refine l_mv 1 S rfl ?_; clear S a; intro a S
                      refine l_pure S (p_add (r := (i + 1)) rfl rfl (IntWalk.i64_in _ (by omega))) rfl rfl rfl ?_; clear S a; intro a S
                      refine l_mv 1 S rfl ?_; clear S a; intro a S
                      refine l_nil ?_
                      refine e_then ?_
                      exact ⟨(fu, mant, neg, tr, hex, (i + 1), und, ndm, dp, es, ee), ⟨S.only ⟨rfl, rfl, rfl, rfl, rfl, rfl, rfl, rfl, rfl, rfl, rfl, rfl, rfl, trivial⟩, H, by rw [← hR]; simp only [rfe, bc42, bc44, bc46, bc50, bc53, cond_true, cond_false], by omega, ⟨by omega, by omega, by omega, hes, by omega⟩⟩, Nat.lt_succ_self fu⟩
                   ·
                    have c46 := bc46
                    have c46 := of_decide_eq_false c46
                    refine l_on S rfl rfl rfl rfl bc46 ?_
                    refine l_pure S (p_move rfl) rfl rfl rfl ?_; clear S a; intro a S
                    refine l_on S rfl rfl rfl rfl bc46 ?_
                    refine l_pure S (p_move rfl) rfl rfl rfl ?_; clear S a; intro a S
                    refine l_on S rfl rfl rfl rfl bc46 ?_
                    refine l_pure S (p_index rfl rfl (fun w => ix_string Tryz.underlying9 (by omega) (by omega))) rfl rfl rfl ?_; clear S a; intro a S
                    have := bt_rng s i
                    refine l_on S rfl rfl rfl rfl bc46 ?_
                    refine l_pure S (p_eql rfl rfl) rfl rfl rfl ?_; clear S a; intro a S
                    refine l_on S rfl rfl rfl rfl bc42 ?_
                    refine l_pure S (p_pick_f rfl bc46 rfl) rfl rfl rfl ?_; clear S a; intro a S
                    refine l_pure S (p_pick_t rfl bc42 rfl) rfl rfl rfl ?_; clear S a; intro a S
                    refine l_nil ?_
                    refine e_then ?_
                    refine c_cond S rfl (fun bc55 => ?_) (fun bc55 => ?_)
                    ·
                     have c55 := bc55
                     have c55 := eq_of_beq c55
                     refine wp_skip ?_
                     refine e_then ?_
                     refine wp_seq ?_
                     refine wp_block ?_
                     refine wp_seq ?_
                     refine wp_seq ?_
                     refine c_region ?_
                     refine l_mv 2 S rfl ?_; clear S a; intro a S
                     refine l_pure S (p_index rfl rfl (fun w => ix_string Tryz.underlying9 (by omega) (by omega))) rfl rfl rfl ?_; clear S a; intro a S
                     have := bt_rng s i
                     refine l_pure S (p_eql rfl rfl) rfl rfl rfl ?_; clear S a; intro a S
                     refine l_nil ?_
                     refine e_then ?_
                     refine c_cond S rfl (fun _ => ?_) (fun h => by rw [bc55] at h; cases h)
                     refine wp_seq ?_
                     refine c_region ?_
                     refine l_mv 1 S rfl ?_; clear S a; intro a S
                     refine l_nil ?_
                     refine e_then ?_
                     refine wp_exit ?_
                     refine e_then_exit ?_
                     refine e_in_exit ?_
                     refine e_then ?_
                     refine c_region ?_
                     refine l_mv 1 S rfl ?_; clear S a; intro a S
                     refine l_pure S (p_add (r := (i + 1)) rfl rfl (IntWalk.i64_in _ (by omega))) rfl rfl rfl ?_; clear S a; intro a S
                     refine l_mv 1 S rfl ?_; clear S a; intro a S
                     refine l_nil ?_
                     refine e_then ?_
                     exact ⟨(fu, mant, neg, tr, hex, (i + 1), true, ndm, dp, es, ee), ⟨S.only ⟨rfl, rfl, rfl, rfl, rfl, rfl, rfl, rfl, rfl, rfl, rfl, rfl, rfl, trivial⟩, H, by rw [← hR]; simp only [rfe, bc42, bc44, bc46, bc55, cond_true, cond_false], by omega, ⟨by omega, by omega, by omega, hes, by omega⟩⟩, Nat.lt_succ_self fu⟩
                    ·
                     have c55 := bc55
                     have c55 := ne_of_beq_false c55
                     refine wp_exit ?_
                     refine e_then_exit ?_
                     refine e_then_exit ?_
                     refine e_in_exit ?_
                     refine e_then ?_
                     exact ⟨mant, neg, tr, hex, i, und, ndm, dp, es, ee, S.only ⟨rfl, rfl, rfl, rfl, rfl, rfl, rfl, rfl, rfl, rfl, rfl, rfl, rfl, trivial⟩, H, by rw [← hR]; simp only [rfe, bc42, bc44, bc46, bc55, cond_true, cond_false], ⟨by omega, by omega, by omega, hes, by omega⟩⟩
                  ·
                   have c44 := bc44
                   have c44 := of_decide_eq_false c44
                   refine l_off S rfl rfl rfl rfl bc44 rfl rfl ?_; clear S a; intro a S
                   refine l_off S rfl rfl rfl rfl bc44 rfl rfl ?_; clear S a; intro a S
                   refine l_off S rfl rfl rfl rfl bc44 rfl rfl ?_; clear S a; intro a S
                   refine l_off S rfl rfl rfl rfl bc44 rfl rfl ?_; clear S a; intro a S
                   refine l_on S rfl rfl rfl rfl bc42 ?_
                   refine l_pure S (p_pick_f rfl bc44 rfl) rfl rfl rfl ?_; clear S a; intro a S
                   refine l_on S rfl rfl rfl rfl bc42 ?_
                   refine l_pure S (p_move rfl) rfl rfl rfl ?_; clear S a; intro a S
                   refine l_on S rfl rfl rfl rfl rfl ?_
                   refine l_pure S (p_move rfl) rfl rfl rfl ?_; clear S a; intro a S
                   refine l_on S rfl rfl rfl rfl rfl ?_
                   refine l_pure S (p_move rfl) rfl rfl rfl ?_; clear S a; intro a S
                   refine l_on S rfl rfl rfl rfl rfl ?_
                   refine l_pure S (p_index rfl rfl (fun w => ix_string Tryz.underlying9 (by omega) (by omega))) rfl rfl rfl ?_; clear S a; intro a S
                   have := bt_rng s i
                   refine l_on S rfl rfl rfl rfl rfl ?_
                   refine l_pure S (p_eql rfl rfl) rfl rfl rfl ?_; clear S a; intro a S
                   refine l_on S rfl rfl rfl rfl bc42 ?_
                   refine l_pure S (p_pick_f rfl rfl rfl) rfl rfl rfl ?_; clear S a; intro a S
                   refine l_pure S (p_pick_t rfl bc42 rfl) rfl rfl rfl ?_; clear S a; intro a S
                   refine l_nil ?_
                   refine e_then ?_
                   refine c_cond S rfl (fun bc61 => ?_) (fun bc61 => ?_)
                   ·
                    have c61 := bc61
                    have c61 := eq_of_beq c61
                    refine wp_skip ?_
                    refine e_then ?_
                    refine wp_seq ?_
                    refine wp_block ?_
                    refine wp_seq ?_
                    refine wp_seq ?_
                    refine c_region ?_
                    refine l_mv 2 S rfl ?_; clear S a; intro a S
                    refine l_pure S (p_index rfl rfl (fun w => ix_string Tryz.underlying9 (by omega) (by omega))) rfl rfl rfl ?_; clear S a; intro a S
                    have := bt_rng s i
                    refine l_pure S (p_eql rfl rfl) rfl rfl rfl ?_; clear S a; intro a S
                    refine l_nil ?_
                    refine e_then ?_
                    refine c_cond S rfl (fun _ => ?_) (fun h => by rw [bc61] at h; cases h)
                    refine wp_seq ?_
                    refine c_region ?_
                    refine l_mv 1 S rfl ?_; clear S a; intro a S
                    refine l_nil ?_
                    refine e_then ?_
                    refine wp_exit ?_
                    refine e_then_exit ?_
                    refine e_in_exit ?_
                    refine e_then ?_
                    refine c_region ?_
                    refine l_mv 1 S rfl ?_; clear S a; intro a S
                    refine l_pure S (p_add (r := (i + 1)) rfl rfl (IntWalk.i64_in _ (by omega))) rfl rfl rfl ?_; clear S a; intro a S
                    refine l_mv 1 S rfl ?_; clear S a; intro a S
                    refine l_nil ?_
                    refine e_then ?_
                    exact ⟨(fu, mant, neg, tr, hex, (i + 1), true, ndm, dp, es, ee), ⟨S.only ⟨rfl, rfl, rfl, rfl, rfl, rfl, rfl, rfl, rfl, rfl, rfl, rfl, rfl, trivial⟩, H, by rw [← hR]; simp only [rfe, bc42, bc44, bc61, cond_true, cond_false], by omega, ⟨by omega, by omega, by omega, hes, by omega⟩⟩, Nat.lt_succ_self fu⟩
                   ·
                    have c61 := bc61
                    have c61 := ne_of_beq_false c61
                    refine wp_exit ?_
                    refine e_then_exit ?_
                    refine e_then_exit ?_
                    refine e_in_exit ?_
                    refine e_then ?_
                    exact ⟨mant, neg, tr, hex, i, und, ndm, dp, es, ee, S.only ⟨rfl, rfl, rfl, rfl, rfl, rfl, rfl, rfl, rfl, rfl, rfl, rfl, rfl, trivial⟩, H, by rw [← hR]; simp only [rfe, bc42, bc44, bc61, cond_true, cond_false], ⟨by omega, by omega, by omega, hes, by omega⟩⟩
                 ·
                  have c42 := bc42
                  have c42 := of_decide_eq_false c42
                  refine l_off S rfl rfl rfl rfl bc42 rfl rfl ?_; clear S a; intro a S
                  refine l_off S rfl rfl rfl rfl bc42 rfl rfl ?_; clear S a; intro a S
                  refine l_off S rfl rfl rfl rfl bc42 rfl rfl ?_; clear S a; intro a S
                  refine l_off S rfl rfl rfl rfl bc42 rfl rfl ?_; clear S a; intro a S
                  refine l_off S rfl rfl rfl rfl bc42 rfl rfl ?_; clear S a; intro a S
                  refine l_offU S rfl rfl rfl rfl rfl rfl ?_; clear S a; intro a S
                  refine l_offU S rfl rfl rfl rfl rfl rfl ?_; clear S a; intro a S
                  refine l_offU S rfl rfl rfl rfl rfl rfl ?_; clear S a; intro a S
                  refine l_offU S rfl rfl rfl rfl rfl rfl ?_; clear S a; intro a S
                  refine l_off S rfl rfl rfl rfl bc42 rfl rfl ?_; clear S a; intro a S
                  refine l_off S rfl rfl rfl rfl bc42 rfl rfl ?_; clear S a; intro a S
                  refine l_offU S rfl rfl rfl rfl rfl rfl ?_; clear S a; intro a S
                  refine l_offU S rfl rfl rfl rfl rfl rfl ?_; clear S a; intro a S
                  refine l_offU S rfl rfl rfl rfl rfl rfl ?_; clear S a; intro a S
                  refine l_offU S rfl rfl rfl rfl rfl rfl ?_; clear S a; intro a S
                  refine l_off S rfl rfl rfl rfl bc42 rfl rfl ?_; clear S a; intro a S
                  refine l_pure S (p_pick_f rfl bc42 rfl) rfl rfl rfl ?_; clear S a; intro a S
                  refine l_nil ?_
                  refine e_then ?_
                  refine c_cond (b := false) S rfl (fun h => by cases h) (fun _ => ?_)
                  refine wp_exit ?_
                  refine e_then_exit ?_
                  refine e_then_exit ?_
                  refine e_in_exit ?_
                  refine e_then ?_
                  exact ⟨mant, neg, tr, hex, i, und, ndm, dp, es, ee, S.only ⟨rfl, rfl, rfl, rfl, rfl, rfl, rfl, rfl, rfl, rfl, rfl, rfl, rfl, trivial⟩, H, by rw [← hR]; simp only [rfe, bc42, cond_true, cond_false], ⟨by omega, by omega, by omega, hes, by omega⟩⟩
            ·
             refine wp_seq ?_
             refine c_region ?_
             refine l_mv 2 S rfl ?_; clear S a; intro a S
             refine l_pure S (p_index rfl rfl (fun w => ix_string Tryz.underlying9 (by omega) (by omega))) rfl rfl rfl ?_; clear S a; intro a S
             have := bt_rng s (i + 1)
             refine l_nil ?_
             refine e_then ?_
             refine wp_block ?_
             refine wp_seq ?_
             refine c_region ?_
             refine l_pure S (p_eql rfl rfl) rfl rfl rfl ?_; clear S a; intro a S
             refine l_mv 1 S rfl ?_; clear S a; intro a S
             refine l_nil ?_
             refine e_then ?_
             refine c_cond S rfl (fun bc68 => ?_) (fun bc68 => ?_)
             ·
              have c68 := bc68
              have c68 := eq_of_beq c68
              refine c_region ?_
              refine l_mv 1 S rfl ?_; clear S a; intro a S
              refine l_pure S (p_add (r := ((i + 1) + 1)) rfl rfl (IntWalk.i64_in _ (by omega))) rfl rfl rfl ?_; clear S a; intro a S
              refine l_mv 1 S rfl ?_; clear S a; intro a S
              refine l_nil ?_
              refine e_in 4 ?_
              refine e_then ?_
              exact ⟨mant, neg, tr, hex, ((i + 1) + 1), und, ndm, dp, 1, S.only ⟨rfl, rfl, rfl, rfl, rfl, rfl, rfl, rfl, rfl, rfl, rfl, rfl, trivial⟩, H, by rw [← hR]; simp only [rf5, bc25, bc27, bc29, bc68, cond_true, cond_false], ⟨by omega, by omega, by omega, by omega⟩⟩
             ·
              have c68 := bc68
              have c68 := ne_of_beq_false c68
              refine wp_seq ?_
              refine c_region ?_
              refine l_pure S (p_eql rfl rfl) rfl rfl rfl ?_; clear S a; intro a S
              refine l_mv 1 S rfl ?_; clear S a; intro a S
              refine l_nil ?_
              refine e_then ?_
              refine c_cond S rfl (fun bc70 => ?_) (fun bc70 => ?_)
              ·
               have c70 := bc70
               have c70 := eq_of_beq c70
               refine wp_seq ?_
               refine c_region ?_
               refine l_mv 1 S rfl ?_; clear S a; intro a S
               refine l_pure S (p_add (r := ((i + 1) + 1)) rfl rfl (IntWalk.i64_in _ (by omega))) rfl rfl rfl ?_; clear S a; intro a S
               refine l_mv 1 S rfl ?_; clear S a; intro a S
               refine l_nil ?_
               refine e_then ?_
               refine c_region ?_
               refine l_mv 1 S rfl ?_; clear S a; intro a S
               refine l_nil ?_
               refine e_in 4 ?_
               refine e_then ?_
               exact ⟨mant, neg, tr, hex, ((i + 1) + 1), und, ndm, dp, (-1), S.only ⟨rfl, rfl, rfl, rfl, rfl, rfl, rfl, rfl, rfl, rfl, rfl, rfl, trivial⟩, H, by rw [← hR]; simp only [rf5, bc25, bc27, bc29, bc68, bc70, cond_true, cond_false], ⟨by omega, by omega, by omega, by omega⟩⟩
              ·
               have c70 := bc70
               have c70 := ne_of_beq_false c70
               refine wp_skip ?_
               refine e_in 4 ?_
               refine e_then ?_
               exact ⟨mant, neg, tr, hex, (i + 1), und, ndm, dp, 1, S.only ⟨rfl, rfl, rfl, rfl, rfl, rfl, rfl, rfl, rfl, rfl, rfl, rfl, trivial⟩, H, by rw [← hR]; simp only [rf5, bc25, bc27, bc29, bc68, bc70, cond_true, cond_false], ⟨by omega, by omega, by omega, by omega⟩⟩
          ·
           have c27 := bc27
           have c27 := ne_of_beq_false c27
           refine wp_seq ?_
           refine c_region ?_
           refine l_mv 1 S rfl ?_; clear S a; intro a S
           refine l_pure S (p_eql rfl rfl) rfl rfl rfl ?_; clear S a; intro a S
           refine l_nil ?_
           refine e_then ?_
           refine c_cond S rfl (fun bc72 => ?_) (fun bc72 => ?_)
           ·
            have c72 := bc72
            have c72 := eq_of_beq c72
            refine wp_ret ?_
            refine e_then_ret ?_
            refine e_sc_ret ?_
            have eR : R = (mant, 0, neg, tr, hex, i, false) := by rw [← hR]; simp only [rf5, bc25, bc27, bc72, cond_true, cond_false]
            clear hR; subst eR
            exact r_ret7 S rfl rfl rfl rfl rfl rfl rfl rfl ⟨rfl, H, by dsimp only; omega, by dsimp only; omega⟩
           ·
            have c72 := bc72
            have c72 := ne_of_beq_false c72
            refine wp_skip ?_
            refine e_then ?_
            exact ⟨mant, neg, tr, hex, i, und, ndm, dp, S.only ⟨rfl, rfl, rfl, rfl, rfl, rfl, rfl, rfl, rfl, rfl, rfl, trivial⟩, H, by rw [← hR]; simp only [rf5, bc25, bc27, bc72, cond_true, cond_false], ⟨by omega, by omega, by omega⟩⟩
         ·
          have c25 := bc25
          have c25 := of_decide_eq_false c25
          refine l_off S rfl rfl rfl rfl bc25 rfl rfl ?_; clear S a; intro a S
          refine l_off S rfl rfl rfl rfl bc25 rfl rfl ?_; clear S a; intro a S
          refine l_off S rfl rfl rfl rfl bc25 rfl rfl ?_; clear S a; intro a S
          refine l_off S rfl rfl rfl rfl bc25 rfl rfl ?_; clear S a; intro a S
          refine l_off S rfl rfl rfl rfl bc25 rfl rfl ?_; clear S a; intro a S
          refine l_off S rfl rfl rfl rfl bc25 rfl rfl ?_; clear S a; intro a S
          refine l_pure S (p_pick_f rfl bc25 rfl) rfl rfl rfl ?_; clear S a; intro a S
          refine l_nil ?_
          refine e_then ?_
          refine c_cond (b := false) S rfl (fun h => by cases h) (fun _ => ?_)
          refine wp_seq ?_
          refine c_region ?_
          refine l_mv 1 S rfl ?_; clear S a; intro a S
          refine l_pure S (p_eql rfl rfl) rfl rfl rfl ?_; clear S a; intro a S
          refine l_nil ?_
          refine e_then ?_
          refine c_cond S rfl (fun bc76 => ?_) (fun bc76 => ?_)
          ·
           have c76 := bc76
           have c76 := eq_of_beq c76
           refine wp_ret ?_
           refine e_then_ret ?_
           refine e_sc_ret ?_
           have eR : R = (mant, 0, neg, tr, hex, i, false) := by rw [← hR]; simp only [rf5, bc25, bc76, cond_true, cond_false]
           clear hR; subst eR
           exact r_ret7 S rfl rfl rfl rfl rfl rfl rfl rfl ⟨rfl, H, by dsimp only; omega, by dsimp only; omega⟩
          ·
           have c76 := bc76
           have c76 := ne_of_beq_false c76
           refine wp_skip ?_
           refine e_then ?_
           exact ⟨mant, neg, tr, hex, i, und, ndm, dp, S.only ⟨rfl, rfl, rfl, rfl, rfl, rfl, rfl, rfl, rfl, rfl, rfl, trivial⟩, H, by rw [← hR]; simp only [rf5, bc25, bc76, cond_true, cond_false], ⟨by omega, by omega, by omega⟩⟩
       ·
        refine wp_seq ?_
        refine c_region ?_
        refine l_mv 1 S rfl ?_; clear S a; intro a S
        refine l_pure S (p_eql rfl rfl) rfl rfl rfl ?_; clear S a; intro a S
        refine l_nil ?_
        refine e_then ?_
        refine c_cond S rfl (fun bc78 => ?_) (fun bc78 => ?_)
        ·
         have c78 := bc78
         have c78 := eq_of_beq c78
         refine wp_seq ?_
         refine c_region ?_
         refine l_mv 1 S rfl ?_; clear S a; intro a S
         refine l_pure S (p_mul (r := (dp * 4)) rfl rfl (IntWalk.i64_in _ (by omega))) rfl rfl rfl ?_; clear S a; intro a S
         refine l_mv 1 S rfl ?_; clear S a; intro a S
         refine l_nil ?_
         refine e_then ?_
         refine c_region ?_
         refine l_mv 1 S rfl ?_; clear S a; intro a S
         refine l_pure S (p_mul (r := (ndm * 4)) rfl rfl (IntWalk.i64_in _ (by omega))) rfl rfl rfl ?_; clear S a; intro a S
         refine l_mv 1 S rfl ?_; clear S a; intro a S
         refine l_nil ?_
         refine e_then ?_
         exact ⟨mant, neg, tr, hex, i, und, base, ech, (ndm * 4), (dp * 4), S.only ⟨rfl, rfl, rfl, rfl, rfl, rfl, rfl, rfl, rfl, rfl, rfl, rfl, rfl, trivial⟩, H, by rw [← hR]; simp only [rf4, bc78, cond_true, cond_false], ⟨by omega, by omega, by omega⟩⟩
        ·
         have c78 := bc78
         have c78 := ne_of_beq_false c78
         refine wp_skip ?_
         refine e_then ?_
         exact ⟨mant, neg, tr, hex, i, und, base, ech, ndm, dp, S.only ⟨rfl, rfl, rfl, rfl, rfl, rfl, rfl, rfl, rfl, rfl, rfl, rfl, rfl, trivial⟩, H, by rw [← hR]; simp only [rf4, bc78, cond_true, cond_false], ⟨by omega, by omega, by omega⟩⟩
      ·
       refine wp_seq ?_
       refine c_region ?_
       refine l_mv 1 S rfl ?_; clear S a; intro a S
       refine l_pure S (p_not rfl) rfl rfl rfl ?_; clear S a; intro a S
       refine l_nil ?_
       refine e_then ?_
       refine c_cond S rfl (fun bc81 => ?_) (fun bc81 => ?_)
       ·
        have c81 := bc81
        replace c81 := not_eq_true_ c81
        refine c_region ?_
        refine l_mv 2 S rfl ?_; clear S a; intro a S
        refine l_nil ?_
        refine e_then ?_
        exact ⟨mant, neg, tr, hex, i, und, base, ech, ndm, nd, S.only ⟨rfl, rfl, rfl, rfl, rfl, rfl, rfl, rfl, rfl, rfl, rfl, rfl, rfl, trivial⟩, H, by rw [← hR]; simp only [rf3, bc12, bc81, cond_true, cond_false], ⟨by omega, by omega, by omega⟩⟩
       ·
        have c81 := bc81
        replace c81 := not_eq_false_ c81
        refine wp_skip ?_
        refine e_then ?_
        exact ⟨mant, neg, tr, hex, i, und, base, ech, ndm, dp, S.only ⟨rfl, rfl, rfl, rfl, rfl, rfl, rfl, rfl, rfl, rfl, rfl, rfl, rfl, trivial⟩, H, by rw [← hR]; simp only [rf3, bc12, bc81, cond_true, cond_false], ⟨by omega, by omega, by omega⟩⟩
    ·
     refine wp_block ?_
     refine c_loop (σ := Nat × (BitVec 64) × Bool × Bool × Bool × Int × Bool × (BitVec 64) × Int × Int × Bool × Bool × Int × Int × Int) (fun s_ a w => match s_ with | (k_, mant, neg, tr, hex, i, und, base, mmd, ech, sd, sg, nd, ndm, dp) => SL a 253 [] [(0, .string s), (3, .int .i64 0), (8, .bool false), (2, .int .u64 (mant.toNat : Int)), (4, .bool neg), (5, .bool tr), (6, .bool hex), (7, .int .i64 i), (9, .bool und), (10, .int .u64 (base.toNat : Int)), (11, .int .i64 mmd), (12, .int .u8 ech), (13, .bool sd), (14, .bool sg), (15, .int .i64 nd), (16, .int .i64 ndm), (17, .int .i64 dp)] ∧ HH B wb w (L0) ∧ (rfd s k_ mant neg tr hex i und base mmd ech sd sg nd ndm dp = R ∧ ((s.size : Int) - i).toNat < k_ ∧ ((0 ≤ i ∧ i ≤ s.size) ∧ (-i ≤ dp ∧ dp ≤ i) ∧ (0 ≤ nd ∧ nd ≤ i) ∧ (0 ≤ ndm ∧ ndm ≤ 19) ∧ (0 ≤ mmd ∧ mmd ≤ 19)))) (fun s_ => s_.1) ((((s.size : Int) - i).toNat) + 1, (0#64), neg, false, hex, i, false, base, mmd, ech, false, false, 0, 0, 0) ⟨S.only ⟨rfl, rfl, rfl, rfl, rfl, rfl, rfl, rfl, rfl, rfl, rfl, rfl, rfl, rfl, rfl, rfl, rfl, trivial⟩, H, by rw [← hR]; simp only [rf2, cond_true, cond_false], by omega, ⟨by omega, by omega, by omega, by omega, by omega⟩⟩ ?_
     clear S a H hR; rintro ⟨fu, mant, neg, tr, hex, i, und, base, mmd, ech, sd, sg, nd, ndm, dp⟩ a w ⟨S, H, hR, hk, hinv⟩
     obtain ⟨fu, rfl⟩ : ∃ j, fu = j + 1 := ⟨fu - 1, by omega⟩
     obtain ⟨hi, hdp, hnd, hnm, hmm⟩ := hinv
     refine wp_seq ?_
     refine wp_seq ?_
     refine c_region ?_
     refine l_mv 2 S rfl ?_; clear S a; intro a S
     refine l_pure S (p_lens Tryz.underlying9 rfl) rfl rfl rfl ?_; clear S a; intro a S
     refine l_pure S (p_lss rfl rfl) rfl rfl rfl ?_; clear S a; intro a S
     refine l_nil ?_
     refine e_then ?_
     refine c_cond S rfl (fun bc83 => ?_) (fun bc83 => ?_)
     ·
      have c83 := bc83
      have c83 := of_decide_eq_true c83
      refine wp_skip ?_
      refine e_then ?_
      refine wp_seq ?_
      refine wp_block ?_
      refine wp_seq ?_
      refine wp_seq ?_
      refine c_region ?_
      refine l_mv 2 S rfl ?_; clear S a; intro a S
      refine l_pure S (p_index rfl rfl (fun w => ix_string Tryz.underlying9 (by omega) (by omega))) rfl rfl rfl ?_; clear S a; intro a S
      have := bt_rng s i
      refine l_mv 1 S rfl ?_; clear S a; intro a S
      refine l_nil ?_
      refine e_then ?_
      refine wp_block ?_
      refine wp_seq ?_
      refine c_region ?_
      refine l_mv 1 S rfl ?_; clear S a; intro a S
      refine l_pure S (p_eql rfl rfl) rfl rfl rfl ?_; clear S a; intro a S
      refine l_pure S (p_beql Tryz.underlying4 rfl rfl) rfl rfl rfl ?_; clear S a; intro a S
      refine l_mv 1 S rfl ?_; clear S a; intro a S
      refine l_nil ?_
      refine e_then ?_
      refine c_cond S rfl (fun bc86 => ?_) (fun bc86 => ?_)
      ·
       have c86 := bc86
       replace c86 := is_t c86
       have c86 := eq_of_beq c86
       refine wp_seq ?_
       refine c_region ?_
       refine l_mv 1 S rfl ?_; clear S a; intro a S
       refine l_nil ?_
       refine e_then ?_
       refine wp_exit ?_
       refine e_in_other rfl ?_
       refine e_then_exit ?_
       refine e_in_exit ?_
       refine e_then ?_
       refine c_region ?_
       refine l_mv 1 S rfl ?_; clear S a; intro a S
       refine l_pure S (p_add (r := (i + 1)) rfl rfl (IntWalk.i64_in _ (by omega))) rfl rfl rfl ?_; clear S a; intro a S
       refine l_mv 1 S rfl ?_; clear S a; intro a S
       refine l_nil ?_
       refine e_then ?_
       exact ⟨(fu, mant, neg, tr, hex, (i + 1), true, base, mmd, ech, sd, sg, nd, ndm, dp), ⟨S.only ⟨rfl, rfl, rfl, rfl, rfl, rfl, rfl, rfl, rfl, rfl, rfl, rfl, rfl, rfl, rfl, rfl, rfl, trivial⟩, H, by rw [← hR]; simp only [rfd, bc83, bc86, cond_true, cond_false], by omega, ⟨by omega, by omega, by omega, by omega, by omega⟩⟩, Nat.lt_succ_self fu⟩
      ·
       have c86 := bc86
       replace c86 := is_f c86
       have c86 := ne_of_beq_false c86
       refine wp_seq ?_
       refine c_region ?_
       refine l_mv 1 S rfl ?_; clear S a; intro a S
       refine l_pure S (p_eql rfl rfl) rfl rfl rfl ?_; clear S a; intro a S
       refine l_pure S (p_beql Tryz.underlying4 rfl rfl) rfl rfl rfl ?_; clear S a; intro a S
       refine l_mv 1 S rfl ?_; clear S a; intro a S
       refine l_nil ?_
       refine e_then ?_
       refine c_cond S rfl (fun bc90 => ?_) (fun bc90 => ?_)
       ·
        have c90 := bc90
        replace c90 := is_t c90
        have c90 := eq_of_beq c90
        refine wp_seq ?_
        refine wp_seq ?_
        refine c_region ?_
        refine l_mv 1 S rfl ?_; clear S a; intro a S
        refine l_nil ?_
        refine e_then ?_
        refine c_cond S rfl (fun bc92 => ?_) (fun bc92 => ?_)
        ·
         have c92 := bc92
         refine wp_exit ?_
         refine e_then_exit ?_
         refine e_in_other rfl ?_
         refine e_then_exit ?_
         refine e_in_other rfl ?_
         refine e_then_exit ?_
         refine e_then_exit ?_
         refine e_in_exit ?_
         refine e_then ?_
         exact ⟨mant, neg, tr, hex, i, und, base, ech, sd, sg, nd, ndm, dp, S.only ⟨rfl, rfl, rfl, rfl, rfl, rfl, rfl, rfl, rfl, rfl, rfl, rfl, rfl, rfl, rfl, rfl, trivial⟩, H, by rw [← hR]; simp only [rfd, bc83, bc86, bc90, bc92, cond_true, cond_false], ⟨by omega, by omega, by omega, by omega⟩⟩
        ·
         have c92 := bc92
         refine wp_skip ?_
         refine e_then ?_
         refine wp_seq ?_
         refine c_region ?_
         refine l_mv 1 S rfl ?_; clear S a; intro a S
         refine l_nil ?_
         refine e_then ?_
         refine wp_seq ?_
         refine c_region ?_
         refine l_mv 2 S rfl ?_; clear S a; intro a S
         refine l_nil ?_
         refine e_then ?_
         refine wp_exit ?_
         refine e_in_other rfl ?_
         refine e_then_exit ?_
         refine e_in_exit ?_
         refine e_then ?_
         refine c_region ?_
         refine l_mv 1 S rfl ?_; clear S a; intro a S
         refine l_pure S (p_add (r := (i + 1)) rfl rfl (IntWalk.i64_in _ (by omega))) rfl rfl rfl ?_; clear S a; intro a S
         refine l_mv 1 S rfl ?_; clear S a; intro a S
         refine l_nil ?_
         refine e_then ?_
         exact ⟨(fu, mant, neg, tr, hex, (i + 1), und, base, mmd, ech, true, sg, nd, ndm, nd), ⟨S.only ⟨rfl, rfl, rfl, rfl, rfl, rfl, rfl, rfl, rfl, rfl, rfl, rfl, rfl, rfl, rfl, rfl, rfl, trivial⟩, H, by rw [← hR]; simp only [rfd, bc83, bc86, bc90, bc92, cond_true, cond_false], by omega, ⟨by omega, by omega, by omega, by omega, by omega⟩⟩, Nat.lt_succ_self fu⟩
       ·
        have c90 := bc90
        replace c90 := is_f c90
        have c90 := ne_of_beq_false c90
        refine wp_seq ?_
        refine c_region ?_
        refine l_mv 1 S rfl ?_; clear S a; intro a S
        refine l_pure S (p_leq rfl rfl) rfl rfl rfl ?_; clear S a; intro a S
        refine l_mv 1 S rfl ?_; clear S a; intro a S
        refine l_split (S.of 79 rfl) (fun bc95 => ?_) (fun bc95 => ?_)
        ·
         have c95 := bc95
         have c95 := of_decide_eq_true c95
         refine l_on S rfl rfl rfl rfl bc95 ?_
         refine l_pure S (p_move rfl) rfl rfl rfl ?_; clear S a; intro a S
         refine l_on S rfl rfl rfl rfl bc95 ?_
         refine l_pure S (p_leq rfl rfl) rfl rfl rfl ?_; clear S a; intro a S
         refine l_pure S (p_pick_t rfl bc95 rfl) rfl rfl rfl ?_; clear S a; intro a S
         refine l_pure S (p_beql Tryz.underlying4 rfl rfl) rfl rfl rfl ?_; clear S a; intro a S
         refine l_mv 1 S rfl ?_; clear S a; intro a S
         refine l_nil ?_
         refine e_then ?_
         refine c_cond S rfl (fun bc98 => ?_) (fun bc98 => ?_)
         ·
          have c98 := bc98
          replace c98 := is_t c98
          have c98 := of_decide_eq_true c98
          refine wp_seq ?_
          refine c_region ?_
          refine l_mv 1 S rfl ?_; clear S a; intro a S
          refine l_nil ?_
          refine e_then ?_
          refine wp_seq ?_
          refine wp_seq ?_
          refine c_region ?_
          refine l_mv 1 S rfl ?_; clear S a; intro a S
          refine l_pure S (p_eql rfl rfl) rfl rfl rfl ?_; clear S a; intro a S
          refine l_mv 1 S rfl ?_; clear S a; intro a S
          refine l_split (S.of 86 rfl) (fun bc101 => ?_) (fun bc101 => ?_)
          ·
           have c101 := bc101
           have c101 := eq_of_beq c101
           refine l_on S rfl rfl rfl rfl bc101 ?_
           refine l_pure S (p_move rfl) rfl rfl rfl ?_; clear S a; intro a S
           refine l_on S rfl rfl rfl rfl bc101 ?_
           refine l_pure S (p_eql rfl rfl) rfl rfl rfl ?_; clear S a; intro a S
           refine l_pure S (p_pick_t rfl bc101 rfl) rfl rfl rfl ?_; clear S a; intro a S
           refine l_nil ?_
           refine e_then ?_
           refine c_cond S rfl (fun bc103 => ?_) (fun bc103 => ?_)
           ·
            have c103 := bc103
            have c103 := eq_of_beq c103
            refine wp_seq ?_
            refine c_region ?_
            refine l_mv 1 S rfl ?_; clear S a; intro a S
            refine l_pure S (p_sub (r := (dp - 1)) rfl rfl (IntWalk.i64_in _ (by omega))) rfl rfl rfl ?_; clear S a; intro a S
            refine l_mv 1 S rfl ?_; clear S a; intro a S
            refine l_nil ?_
            refine e_then ?_
            refine wp_exit ?_
            refine e_then_exit ?_
            refine e_in_other rfl ?_
            refine e_then_exit ?_
            refine e_in_exit ?_
            refine e_then ?_
            refine c_region ?_
            refine l_mv 1 S rfl ?_; clear S a; intro a S
            refine l_pure S (p_add (r := (i + 1)) rfl rfl (IntWalk.i64_in _ (by omega))) rfl rfl rfl ?_; clear S a; intro a S
            refine l_mv 1 S rfl ?_; clear S a; intro a S
            refine l_nil ?_
            refine e_then ?_
            exact ⟨(fu, mant, neg, tr, hex, (i + 1), und, base, mmd, ech, sd, true, nd, ndm, (dp - 1)), ⟨S.only ⟨rfl, rfl, rfl, rfl, rfl, rfl, rfl, rfl, rfl, rfl, rfl, rfl, rfl, rfl, rfl, rfl, rfl, trivial⟩, H, by rw [← hR]; simp only [rfd, bc83, bc86, bc90, bc95, bc98, bc101, bc103, cond_true, cond_false], by omega, ⟨by omega, by omega, by omega, by omega, by omega⟩⟩, Nat.lt_succ_self fu⟩
           ·
            have c103 := bc103
            have c103 := ne_of_beq_false c103
            refine wp_skip ?_
            refine e_then ?_
            refine wp_seq ?_
            refine c_region ?_
            refine l_mv 1 S rfl ?_; clear S a; intro a S
            refine l_pure S (p_add (r := (nd + 1)) rfl rfl (IntWalk.i64_in _ (by omega))) rfl rfl rfl ?_; clear S a; intro a S
            refine l_mv 1 S rfl ?_; clear S a; intro a S
            refine l_nil ?_
            refine e_then ?_
            refine wp_seq ?_
            refine wp_seq ?_
            refine c_region ?_
            refine l_mv 2 S rfl ?_; clear S a; intro a S
            refine l_pure S (p_lss rfl rfl) rfl rfl rfl ?_; clear S a; intro a S
            refine l_nil ?_
            refine e_then ?_
            refine c_cond S rfl (fun bc105 => ?_) (fun bc105 => ?_)
            ·
             have c105 := bc105
             have c105 := of_decide_eq_true c105
             refine wp_seq ?_
             refine c_region ?_
             refine l_mv 2 S rfl ?_; clear S a; intro a S
             refine l_pure S (p_mul rfl rfl (mul64 mant base)) rfl rfl rfl ?_; clear S a; intro a S
             refine l_mv 1 S rfl ?_; clear S a; intro a S
             refine l_nil ?_
             refine e_then ?_
             refine wp_seq ?_
             refine c_region ?_
             refine l_mv 2 S rfl ?_; clear S a; intro a S
             refine l_pure S (p_sub (r := ((HHW.bt s i) - 48)) rfl rfl (IntWalk.u8_in _ (by omega))) rfl rfl rfl ?_; clear S a; intro a S
             refine l_pure S (p_conv rfl (fun w => cv_int (Tryz.underlying5) (Tryz.underlying22) (fz.ofI64 ((HHW.bt s i) - 48)))) rfl rfl rfl ?_; clear S a; intro a S
             refine l_pure S (p_add rfl rfl (add64 (mant * base) (BitVec.ofInt 64 ((HHW.bt s i) - 48)))) rfl rfl rfl ?_; clear S a; intro a S
             refine l_mv 1 S rfl ?_; clear S a; intro a S
             refine l_nil ?_
             refine e_then ?_
             refine c_region ?_
             refine l_mv 1 S rfl ?_; clear S a; intro a S
             refine l_pure S (p_add (r := (ndm + 1)) rfl rfl (IntWalk.i64_in _ (by omega))) rfl rfl rfl ?_; clear S a; intro a S
             refine l_mv 1 S rfl ?_; clear S a; intro a S
             refine l_nil ?_
             refine e_then ?_
             refine wp_exit ?_
             refine e_in_other rfl ?_
             refine e_then_exit ?_
             refine e_in_exit ?_
             refine e_then ?_
             refine c_region ?_
             refine l_mv 1 S rfl ?_; clear S a; intro a S
             refine l_pure S (p_add (r := (i + 1)) rfl rfl (IntWalk.i64_in _ (by omega))) rfl rfl rfl ?_; clear S a; intro a S
             refine l_mv 1 S rfl ?_; clear S a; intro a S
             refine l_nil ?_
             refine e_then ?_
             exact ⟨(fu, ((mant * base) + (BitVec.ofInt 64 ((HHW.bt s i) - 48))), neg, tr, hex, (i + 1), und, base, mmd, ech, sd, true, (nd + 1), (ndm + 1), dp), ⟨S.only ⟨rfl, rfl, rfl, rfl, rfl, rfl, rfl, rfl, rfl, rfl, rfl, rfl, rfl, rfl, rfl, rfl, rfl, trivial⟩, H, by rw [← hR]; simp only [rfd, bc83, bc86, bc90, bc95, bc98, bc101, bc103, bc105, cond_true, cond_false], by omega, ⟨by omega, by omega, by omega, by omega, by omega⟩⟩, Nat.lt_succ_self fu⟩
            ·
             have c105 := bc105
             have c105 := of_decide_eq_false c105
             refine wp_seq ?_
             refine c_region ?_
             refine l_mv 1 S rfl ?_; clear S a; intro a S
             refine l_pure S (p_neq rfl rfl) rfl rfl rfl ?_; clear S a; intro a S
             refine l_nil ?_
             refine e_then ?_
             refine c_cond S rfl (fun bc107 => ?_) (fun bc107 => ?_)
             ·
              have c107 := bc107
              have c107 := bne_iff_ne.1 c107
              refine c_region ?_
              refine l_mv 1 S rfl ?_; clear S a; intro a S
              refine l_nil ?_
              refine e_then ?_
              refine wp_exit ?_
              refine e_in_other rfl ?_
              refine e_then_exit ?_
              refine e_in_exit ?_
              refine e_then ?_
              refine c_region ?_
              refine l_mv 1 S rfl ?_; clear S a; intro a S
              refine l_pure S (p_add (r := (i + 1)) rfl rfl (IntWalk.i64_in _ (by omega))) rfl rfl rfl ?_; clear S a; intro a S
              refine l_mv 1 S rfl ?_; clear S a; intro a S
              refine l_nil ?_
              refine e_then ?_
              exact ⟨(fu, mant, neg, true, hex, (i + 1), und, base, mmd, ech, sd, true, (nd + 1), ndm, dp), ⟨S.only ⟨rfl, rfl, rfl, rfl, rfl, rfl, rfl, rfl, rfl, rfl, rfl, rfl, rfl, rfl, rfl, rfl, rfl, trivial⟩, H, by rw [← hR]; simp only [rfd, bc83, bc86, bc90, bc95, bc98, bc101, bc103, bc105, bc107, cond_true, cond_false], by omega, ⟨by omega, by omega, by omega, by omega, by omega⟩⟩, Nat.lt_succ_self fu⟩
             ·
              have c107 := bc107
              have c107 := bne_eq_false_iff_eq.1 c107
              refine wp_skip ?_
              refine e_then ?_
              refine wp_exit ?_
              refine e_in_other rfl ?_
              refine e_then_exit ?_
              refine e_in_exit ?_
              refine e_then ?_
              refine c_region ?_
              refine l_mv 1 S rfl ?_; clear S a; intro a S
              refine l_pure S (p_add (r := (i + 1)) rfl rfl (IntWalk.i64_in _ (by omega))) rfl rfl rfl ?_; clear S a; intro a S
              refine l_mv 1 S rfl ?_; clear S a; intro a S
              refine l_nil ?_
              refine e_then ?_
              exact ⟨(fu, mant, neg, tr, hex, (i + 1), und, base, mmd, ech, sd, true, (nd + 1), ndm, dp), ⟨S.only ⟨rfl, rfl, rfl, rfl, rfl, rfl, rfl, rfl, rfl, rfl, rfl, rfl, rfl, rfl, rfl, rfl, rfl, trivial⟩, H, by rw [← hR]; simp only [rfd, bc83, bc86, bc90, bc95, bc98, bc101, bc103, bc105, bc107, cond_true, cond_false], by omega, ⟨by omega, by omega, by omega, by omega, by omega⟩⟩, Nat.lt_succ_self fu⟩
          ·
           have c101 := bc101
           have c101 := ne_of_beq_false c101
           refine l_off S rfl rfl rfl rfl bc101 rfl rfl ?_; clear S a; intro a S
           refine l_off S rfl rfl rfl rfl bc101 rfl rfl ?_; clear S a; intro a S
           refine l_pure S (p_pick_f rfl bc101 rfl) rfl rfl rfl ?_; clear S a; intro a S
           refine l_nil ?_
           refine e_then ?_
           refine c_cond (b := false) S rfl (fun h => by cases h) (fun _ => ?_)
           refine wp_skip ?_
           refine e_then ?_
           refine wp_seq ?_
           refine c_region ?_
           refine l_mv 1 S rfl ?_; clear S a; intro a S
           refine l_pure S (p_add (r := (nd + 1)) rfl rfl (IntWalk.i64_in _ (by omega))) rfl rfl rfl ?_; clear S a; intro a S
           refine l_mv 1 S rfl ?_; clear S a; intro a S
           refine l_nil ?_
           refine e_then ?_
           refine wp_seq ?_
           refine wp_seq ?_
           refine c_region ?_
           refine l_mv 2 S rfl ?_; clear S a; intro a S
           refine l_pure S (p_lss rfl rfl) rfl rfl rfl ?_; clear S a; intro a S
           refine l_nil ?_
           refine e_then ?_
           refine c_cond S rfl (fun bc112 => ?_) (fun bc112 => ?_)
           ·
            have c112 := bc112
            have c112 := of_decide_eq_true c112
            refine wp_seq ?_
            refine c_region ?_
            refine l_mv 2 S rfl ?_; clear S a; intro a S
            refine l_pure S (p_mul rfl rfl (mul64 mant base)) rfl rfl rfl ?_; clear S a; intro a S
            refine l_mv 1 S rfl ?_; clear S a; intro a S
            refine l_nil ?_
            refine e_then ?_
            refine wp_seq ?_
            refine c_region ?_
            refine l_mv 2 S rfl ?_; clear S a; intro a S
            refine l_pure S (p_sub (r := ((HHW.bt s i) - 48)) rfl rfl (IntWalk.u8_in _ (by omega))) rfl rfl rfl ?_; clear S a; intro a S
            refine l_pure S (p_conv rfl (fun w => cv_int (Tryz.underlying5) (Tryz.underlying22) (fz.ofI64 ((HHW.bt s i) - 48)))) rfl rfl rfl ?_; clear S a; intro a S
            refine l_pure S (p_add rfl rfl (add64 (mant * base) (BitVec.ofInt 64 ((HHW.bt s i) - 48)))) rfl rfl rfl ?_; clear S a; intro a S
            refine l_mv 1 S rfl ?_; clear S a; intro a S
            refine l_nil ?_
            refine e_then ?_
            refine c_region ?_
            refine l_mv 1 S rfl ?_; clear S a; intro a S
            refine l_pure S (p_add (r := (ndm + 1)) rfl rfl (IntWalk.i64_in _ (by omega))) rfl rfl rfl ?_; clear S a; intro a S
            refine l_mv 1 S rfl ?_; clear S a; intro a S
            refine l_nil ?_
            refine e_then ?_
            refine wp_exit ?_
            refine e_in_other rfl ?_
            refine e_then_exit ?_
            refine e_in_exit ?_
            refine e_then ?_
            refine c_region ?_
            refine l_mv 1 S rfl ?_; clear S a; intro a S
            refine l_pure S (p_add (r := (i + 1)) rfl rfl (IntWalk.i64_in _ (by omega))) rfl rfl rfl ?_; clear S a; intro a S
            refine l_mv 1 S rfl ?_; clear S a; intro a S
            refine l_nil ?_
            refine e_then ?_
            exact ⟨(fu, ((mant * base) + (BitVec.ofInt 64 ((HHW.bt s i) - 48))), neg, tr, hex, (i + 1), und, base, mmd, ech, sd, true, (nd + 1), (ndm + 1), dp), ⟨S.only ⟨rfl, rfl, rfl, rfl, rfl, rfl, rfl, rfl, rfl, rfl, rfl, rfl, rfl, rfl, rfl, rfl, rfl, trivial⟩, H, by rw [← hR]; simp only [rfd, bc83, bc86, bc90, bc95, bc98, bc101, bc112, cond_true, cond_false], by omega, ⟨by omega, by omega, by omega, by omega, by omega⟩⟩, Nat.lt_succ_self fu⟩
           ·
            have c112 := bc112
            have c112 := of_decide_eq_false c112
            refine wp_seq ?_
            refine c_region ?_
            refine l_mv 1 S rfl ?_; clear S a; intro a S
            refine l_pure S (p_neq rfl rfl) rfl rfl rfl ?_; clear S a; intro a S
            refine l_nil ?_
            refine e_then ?_
            refine c_cond S rfl (fun bc114 => ?_) (fun bc114 => ?_)
            ·
             have c114 := bc114
             have c114 := bne_iff_ne.1 c114
             refine c_region ?_
             refine l_mv 1 S rfl ?_; clear S a; intro a S
             refine l_nil ?_
             refine e_then ?_
             refine wp_exit ?_
             refine e_in_other rfl ?_
             refine e_then_exit ?_
             refine e_in_exit ?_
             refine e_then ?_
             refine c_region ?_
             refine l_mv 1 S rfl ?_; clear S a; intro a S
             refine l_pure S (p_add (r := (i + 1)) rfl rfl (IntWalk.i64_in _ (by omega))) rfl rfl rfl ?_; clear S a; intro a S
             refine l_mv 1 S rfl ?_; clear S a; intro a S
             refine l_nil ?_
             refine e_then ?_
             exact ⟨(fu, mant, neg, true, hex, (i + 1), und, base, mmd, ech, sd, true, (nd + 1), ndm, dp), ⟨S.only ⟨rfl, rfl, rfl, rfl, rfl, rfl, rfl, rfl, rfl, rfl, rfl, rfl, rfl, rfl, rfl, rfl, rfl, trivial⟩, H, by rw [← hR]; simp only [rfd, bc83, bc86, bc90, bc95, bc98, bc101, bc112, bc114, cond_true, cond_false], by omega, ⟨by omega, by omega, by omega, by omega, by omega⟩⟩, Nat.lt_succ_self fu⟩
            ·
             have c114 := bc114
             have c114 := bne_eq_false_iff_eq.1 c114
             refine wp_skip ?_
             refine e_then ?_
             refine wp_exit ?_
             refine e_in_other rfl ?_
             refine e_then_exit ?_
             refine e_in_exit ?_
             refine e_then ?_
             refine c_region ?_
             refine l_mv 1 S rfl ?_; clear S a; intro a S
             refine l_pure S (p_add (r := (i + 1)) rfl rfl (IntWalk.i64_in _ (by omega))) rfl rfl rfl ?_; clear S a; intro a S
             refine l_mv 1 S rfl ?_; clear S a; intro a S
             refine l_nil ?_
             refine e_then ?_
             exact ⟨(fu, mant, neg, tr, hex, (i + 1), und, base, mmd, ech, sd, true, (nd + 1), ndm, dp), ⟨S.only ⟨rfl, rfl, rfl, rfl, rfl, rfl, rfl, rfl, rfl, rfl, rfl, rfl, rfl, rfl, rfl, rfl, rfl, trivial⟩, H, by rw [← hR]; simp only [rfd, bc83, bc86, bc90, bc95, bc98, bc101, bc112, bc114, cond_true, cond_false], by omega, ⟨by omega, by omega, by omega, by omega, by omega⟩⟩, Nat.lt_succ_self fu⟩
         ·
          have c98 := bc98
          replace c98 := is_f c98
          have c98 := of_decide_eq_false c98
          refine wp_seq ?_
          refine c_region ?_
          refine l_mv 1 S rfl ?_; clear S a; intro a S
          refine l_pure S (p_eql rfl rfl) rfl rfl rfl ?_; clear S a; intro a S
          refine l_mv 1 S rfl ?_; clear S a; intro a S
          refine l_split (S.of 112 rfl) (fun bc117 => ?_) (fun bc117 => ?_)
          ·
           have c117 := bc117
           have c117 := eq_of_beq c117
           refine l_on S rfl rfl rfl rfl bc117 ?_
           refine l_pure S (p_move rfl) rfl rfl rfl ?_; clear S a; intro a S
           refine l_on S rfl rfl rfl rfl bc117 ?_
           have := lw_range (HHW.bt s i) (by omega)
           have hcon := sm.lower_ wb _ B _ (HHW.bt s i) H
           refine l_call S rfl rfl Tryz.func66 rfl rfl (hcon) rfl rfl rfl ?_
           rintro e w ⟨rfl, hH⟩
           refine ⟨_, rfl, ?_⟩; clear S a; intro a S
           clear H hcon; have H := hH; clear hH
           refine l_on S rfl rfl rfl rfl bc117 ?_
           refine l_pure S (p_leq rfl rfl) rfl rfl rfl ?_; clear S a; intro a S
           refine l_pure S (p_pick_t rfl bc117 rfl) rfl rfl rfl ?_; clear S a; intro a S
           refine l_mv 1 S rfl ?_; clear S a; intro a S
           refine l_split (S.of 117 rfl) (fun bc119 => ?_) (fun bc119 => ?_)
           ·
            have c119 := bc119
            have c119 := of_decide_eq_true c119
            refine l_on S rfl rfl rfl rfl bc119 ?_
            refine l_pure S (p_move rfl) rfl rfl rfl ?_; clear S a; intro a S
            refine l_on S rfl rfl rfl rfl bc119 ?_
            have := lw_range (HHW.bt s i) (by omega)
            have hcon := sm.lower_ wb _ B _ (HHW.bt s i) H
            refine l_call S rfl rfl Tryz.func66 rfl rfl (hcon) rfl rfl rfl ?_
            rintro e w ⟨rfl, hH⟩
            refine ⟨_, rfl, ?_⟩; clear S a; intro a S
            clear H hcon; have H := hH; clear hH
            refine l_on S rfl rfl rfl rfl bc119 ?_
            refine l_pure S (p_leq rfl rfl) rfl rfl rfl ?_; clear S a; intro a S
            refine l_pure S (p_pick_t rfl bc119 rfl) rfl rfl rfl ?_; clear S a; intro a S
            refine l_pure S (p_beql Tryz.underlying4 rfl rfl) rfl rfl rfl ?_; clear S a; intro a S
            refine l_mv 1 S rfl ?_; clear S a; intro a S
            refine l_nil ?_
            refine e_then ?_
            refine c_cond S rfl (fun bc122 => ?_) (fun bc122 => ?_)
            ·
             have c122 := bc122
             replace c122 := is_t c122
             have c122 := of_decide_eq_true c122
             refine wp_seq ?_
             refine c_region ?_
             refine l_mv 1 S rfl ?_; clear S a; intro a S
             refine l_nil ?_
             refine e_then ?_
             refine wp_seq ?_
             refine c_region ?_
             refine l_mv 1 S rfl ?_; clear S a; intro a S
             refine l_pure S (p_add (r := (nd + 1)) rfl rfl (IntWalk.i64_in _ (by omega))) rfl rfl rfl ?_; clear S a; intro a S
             refine l_mv 1 S rfl ?_; clear S a; intro a S
             refine l_nil ?_
             refine e_then ?_
             refine wp_seq ?_
             refine wp_seq ?_
             refine c_region ?_
             refine l_mv 2 S rfl ?_; clear S a; intro a S
             refine l_pure S (p_lss rfl rfl) rfl rfl rfl ?_; clear S a; intro a S
             refine l_nil ?_
             refine e_then ?_
             refine c_cond S rfl (fun bc125 => ?_) (fun bc125 => ?_)
             ·
              have c125 := bc125
              have c125 := of_decide_eq_true c125
              refine wp_seq ?_
              refine c_region ?_
              refine l_mv 1 S rfl ?_; clear S a; intro a S
              refine l_pure S (p_mul rfl rfl (mul64 mant 16#64)) rfl rfl rfl ?_; clear S a; intro a S
              refine l_mv 1 S rfl ?_; clear S a; intro a S
              refine l_nil ?_
              refine e_then ?_
              refine wp_seq ?_
              refine c_region ?_
              refine l_mv 2 S rfl ?_; clear S a; intro a S
              have := lw_range (HHW.bt s i) (by omega)
              have hcon := sm.lower_ wb _ B _ (HHW.bt s i) H
              refine l_call S rfl rfl Tryz.func66 rfl rfl (hcon) rfl rfl rfl ?_
              rintro e w ⟨rfl, hH⟩
              refine ⟨_, rfl, ?_⟩; clear S a; intro a S
              clear H hcon; have H := hH; clear hH
              refine l_pure S (p_sub (r := ((lw (HHW.bt s i)) - 97)) rfl rfl (IntWalk.u8_in _ (by omega))) rfl rfl rfl ?_; clear S a; intro a S
              refine l_pure S (p_add (r := (((lw (HHW.bt s i)) - 97) + 10)) rfl rfl (IntWalk.u8_in _ (by omega))) rfl rfl rfl ?_; clear S a; intro a S
              refine l_pure S (p_conv rfl (fun w => cv_int (Tryz.underlying5) (Tryz.underlying22) (fz.ofI64 (((lw (HHW.bt s i)) - 97) + 10)))) rfl rfl rfl ?_; clear S a; intro a S
              refine l_pure S (p_add rfl rfl (add64 (mant * 16#64) (BitVec.ofInt 64 (((lw (HHW.bt s i)) - 97) + 10)))) rfl rfl rfl ?_; clear S a; intro a S
              refine l_mv 1 S rfl ?_; clear S a; intro a S
              refine l_nil ?_
              refine e_then ?_
              refine c_region ?_
              refine l_mv 1 S rfl ?_; clear S a; intro a S
              refine l_pure S (p_add (r := (ndm + 1)) rfl rfl (IntWalk.i64_in _ (by omega))) rfl rfl rfl ?_; clear S a; intro a S
              refine l_mv 1 S rfl ?_; clear S a; intro a S
              refine l_nil ?_
              refine e_then ?_
              refine wp_exit ?_
              refine e_in_other rfl ?_
              refine e_then_exit ?_
              refine e_in_exit ?_
              refine e_then ?_
              refine c_region ?_
              refine l_mv 1 S rfl ?_; clear S a; intro a S
              refine l_pure S (p_add (r := (i + 1)) rfl rfl (IntWalk.i64_in _ (by omega))) rfl rfl rfl ?_; clear S a; intro a S
              refine l_mv 1 S rfl ?_; clear S a; intro a S
              refine l_nil ?_
              refine e_then ?_
              exact ⟨(fu, ((mant * 16#64) + (BitVec.ofInt 64 (((lw (HHW.bt s i)) - 97) + 10))), neg, tr, hex, (i + 1), und, base, mmd, ech, sd, true, (nd + 1), (ndm + 1), dp), ⟨S.only ⟨rfl, rfl, rfl, rfl, rfl, rfl, rfl, rfl, rfl, rfl, rfl, rfl, rfl, rfl, rfl, rfl, rfl, trivial⟩, H, by rw [← hR]; simp only [rfd, bc83, bc86, bc90, bc95, bc98, bc117, bc119, bc122, bc125, cond_true, cond_false], by omega, ⟨by omega, by omega, by omega, by omega, by omega⟩⟩, Nat.lt_succ_self fu⟩
             ·
              have c125 := bc125
              have c125 := of_decide_eq_false c125
              refine c_region ?_
              refine l_mv 1 S rfl ?_; clear S a; intro a S
              refine l_nil ?_
              refine e_then ?_
              refine wp_exit ?_
              refine e_in_other rfl ?_
              refine e_then_exit ?_
              refine e_in_exit ?_
              refine e_then ?_
              refine c_region ?_
              refine l_mv 1 S rfl ?_; clear S a; intro a S
              refine l_pure S (p_add (r := (i + 1)) rfl rfl (IntWalk.i64_in _ (by omega))) rfl rfl rfl ?_; clear S a; intro a S
              refine l_mv 1 S rfl ?_; clear S a; intro a S
              refine l_nil ?_
              refine e_then ?_
              exact ⟨(fu, mant, neg, true, hex, (i + 1), und, base, mmd, ech, sd, true, (nd + 1), ndm, dp), ⟨S.only ⟨rfl, rfl, rfl, rfl, rfl, rfl, rfl, rfl, rfl, rfl, rfl, rfl, rfl, rfl, rfl, rfl, rfl, trivial⟩, H, by rw [← hR]; simp only [rfd, bc83, bc86, bc90, bc95, bc98, bc117, bc119, bc122, bc125, cond_true, cond_false], by omega, ⟨by omega, by omega, by omega, by omega, by omega⟩⟩, Nat.lt_succ_self fu⟩
            ·
             have c122 := bc122
             replace c122 := is_f c122
             have c122 := of_decide_eq_false c122
             refine wp_skip ?_
             refine e_in 3 ?_
             refine e_then ?_
             refine wp_exit ?_
             refine e_in_other rfl ?_
             refine e_then_exit ?_
             refine e_then_exit ?_
             refine e_in_exit ?_
             refine e_then ?_
             exact ⟨mant, neg, tr, hex, i, und, base, ech, sd, sg, nd, ndm, dp, S.only ⟨rfl, rfl, rfl, rfl, rfl, rfl, rfl, rfl, rfl, rfl, rfl, rfl, rfl, rfl, rfl, rfl, trivial⟩, H, by rw [← hR]; simp only [rfd, bc83, bc86, bc90, bc95, bc98, bc117, bc119, bc122, cond_true, cond_false], ⟨by omega, by omega, by omega, by omega⟩⟩
           ·
            have c119 := bc119
            have c119 := of_decide_eq_false c119
            refine l_off S rfl rfl rfl rfl bc119 rfl rfl ?_; clear S a; intro a S
            refine l_off S rfl rfl rfl rfl bc119 rfl rfl ?_; clear S a; intro a S
            refine l_off S rfl rfl rfl rfl bc119 rfl rfl ?_; clear S a; intro a S
            refine l_pure S (p_pick_f rfl bc119 rfl) rfl rfl rfl ?_; clear S a; intro a S
            refine l_pure S (p_beql Tryz.underlying4 rfl rfl) rfl rfl rfl ?_; clear S a; intro a S
            refine l_mv 1 S rfl ?_; clear S a; intro a S
            refine l_nil ?_
            refine e_then ?_
            refine c_cond (b := false) S rfl (fun h => by cases h) (fun _ => ?_)
            refine wp_skip ?_
            refine e_in 3 ?_
            refine e_then ?_
            refine wp_exit ?_
            refine e_in_other rfl ?_
            refine e_then_exit ?_
            refine e_then_exit ?_
            refine e_in_exit ?_
            refine e_then ?_
            exact ⟨mant, neg, tr, hex, i, und, base, ech, sd, sg, nd, ndm, dp, S.only ⟨rfl, rfl, rfl, rfl, rfl, rfl, rfl, rfl, rfl, rfl, rfl, rfl, rfl, rfl, rfl, rfl, trivial⟩, H, by rw [← hR]; simp only [rfd, bc83, bc86, bc90, bc95, bc98, bc117, bc119, cond_true, cond_false], ⟨by omega, by omega, by omega, by omega⟩⟩
          ·
           have c117 := bc117
           have c117 := ne_of_beq_false c117
           refine l_off S rfl rfl rfl rfl bc117 rfl rfl ?_; clear S a; intro a S
           refine l_off S rfl rfl rfl rfl bc117 rfl rfl ?_; clear S a; intro a S
           refine l_off S rfl rfl rfl rfl bc117 rfl rfl ?_; clear S a; intro a S
           refine l_pure S (p_pick_f rfl bc117 rfl) rfl rfl rfl ?_; clear S a; intro a S
           refine l_mv 1 S rfl ?_; clear S a; intro a S
           refine l_off S rfl rfl rfl rfl rfl rfl rfl ?_; clear S a; intro a S
           refine l_off S rfl rfl rfl rfl rfl rfl rfl ?_; clear S a; intro a S
           refine l_off S rfl rfl rfl rfl rfl rfl rfl ?_; clear S a; intro a S
           refine l_pure S (p_pick_f rfl rfl rfl) rfl rfl rfl ?_; clear S a; intro a S
           refine l_pure S (p_beql Tryz.underlying4 rfl rfl) rfl rfl rfl ?_; clear S a; intro a S
           refine l_mv 1 S rfl ?_; clear S a; intro a S
           refine l_nil ?_
           refine e_then ?_
           refine c_cond (b := false) S rfl (fun h => by cases h) (fun _ => ?_)
           refine wp_skip ?_
           refine e_in 3 ?_
           refine e_then ?_
           refine wp_exit ?_
           refine e_in_other rfl ?_
           refine e_then_exit ?_
           refine e_then_exit ?_
           refine e_in_exit ?_
           refine e_then ?_
           exact ⟨mant, neg, tr, hex, i, und, base, ech, sd, sg, nd, ndm, dp, S.only ⟨rfl, rfl, rfl, rfl, rfl, rfl, rfl, rfl, rfl, rfl, rfl, rfl, rfl, rfl, rfl, rfl, trivial⟩, H, by rw [← hR]; simp only [rfd, bc83, bc86, bc90, bc95, bc98, bc117, cond_true, cond_false], ⟨by omega, by omega, by omega, by omega⟩⟩
        ·
         have c95 := bc95
         have c95 := of_decide_eq_false c95
         refine l_off S rfl rfl rfl rfl bc95 rfl rfl ?_; clear S a; intro a S
         refine l_off S rfl rfl rfl rfl bc95 rfl rfl ?_; clear S a; intro a S
         refine l_pure S (p_pick_f rfl bc95 rfl) rfl rfl rfl ?_; clear S a; intro a S
         refine l_pure S (p_beql Tryz.underlying4 rfl rfl) rfl rfl rfl ?_; clear S a; intro a S
         refine l_mv 1 S rfl ?_; clear S a; intro a S
         refine l_nil ?_
         refine e_then ?_
         refine c_cond (b := false) S rfl (fun h => by cases h) (fun _ => ?_)
         refine wp_seq ?_
         refine c_region ?_
         refine l_mv 1 S rfl ?_; clear S a; intro a S
         refine l_pure S (p_eql rfl rfl) rfl rfl rfl ?_; clear S a; intro a S
         refine l_mv 1 S rfl ?_; clear S a; intro a S
         refine l_split (S.of 112 rfl) (fun bc138 => ?_) (fun bc138 => ?_)
         ·
          have c138 := bc138
          have c138 := eq_of_beq c138
          refine l_on S rfl rfl rfl rfl bc138 ?_
          refine l_pure S (p_move rfl) rfl rfl rfl ?_; clear S a; intro a S
          refine l_on S rfl rfl rfl rfl bc138 ?_
          have := lw_range (HHW.bt s i) (by omega)
          have hcon := sm.lower_ wb _ B _ (HHW.bt s i) H
          refine l_call S rfl rfl Tryz.func66 rfl rfl (hcon) rfl rfl rfl ?_
          rintro e w ⟨rfl, hH⟩
          refine ⟨_, rfl, ?_⟩; clear S a; intro a S
          clear H hcon; have H := hH; clear hH
          refine l_on S rfl rfl rfl rfl bc138 ?_
          refine l_pure S (p_leq rfl rfl) rfl rfl rfl ?_; clear S a; intro a S
          refine l_pure S (p_pick_t rfl bc138 rfl) rfl rfl rfl ?_; clear S a; intro a S
          refine l_mv 1 S rfl ?_; clear S a; intro a S
          refine l_split (S.of 117 rfl) (fun bc140 => ?_) (fun bc140 => ?_)
          ·
           have c140 := bc140
           have c140 := of_decide_eq_true c140
           refine l_on S rfl rfl rfl rfl bc140 ?_
           refine l_pure S (p_move rfl) rfl rfl rfl ?_; clear S a; intro a S
           refine l_on S rfl rfl rfl rfl bc140 ?_
           have := lw_range (HHW.bt s i) (by omega)
           have hcon := sm.lower_ wb _ B _ (HHW.bt s i) H
           refine l_call S rfl rfl Tryz.func66 rfl rfl (hcon) rfl rfl rfl ?_
           rintro e w ⟨rfl, hH⟩
           refine ⟨_, rfl, ?_⟩; clear S a; intro a S
           clear H hcon; have H := hH; clear hH
           refine l_on S rfl rfl rfl rfl bc140 ?_
           refine l_pure S (p_leq rfl rfl) rfl rfl rfl ?_; clear S a; intro a S
           refine l_pure S (p_pick_t rfl bc140 rfl) rfl rfl rfl ?_; clear S a; intro a S
           refine l_pure S (p_beql Tryz.underlying4 rfl rfl) rfl rfl rfl ?_; clear S a; intro a S
           refine l_mv 1 S rfl ?_; clear S a; intro a S
           refine l_nil ?_
           refine e_then ?_
           refine c_cond S rfl (fun bc143 => ?_) (fun bc143 => ?_)
           ·
            have c143 := bc143
            replace c143 := is_t c143
            have c143 := of_decide_eq_true c143
            refine wp_seq ?_
            refine c_region ?_
            refine l_mv 1 S rfl ?_; clear S a; intro a S
            refine l_nil ?_
            refine e_then ?_
            refine wp_seq ?_
            refine c_region ?_
            refine l_mv 1 S rfl ?_; clear S a; intro a S
            refine l_pure S (p_add (r := (nd + 1)) rfl rfl (IntWalk.i64_in _ (by omega))) rfl rfl rfl ?_; clear S a; intro a S
            refine l_mv 1 S rfl ?_; clear S a; intro a S
            refine l_nil ?_
            refine e_then ?_
            refine wp_seq ?_
            refine wp_seq ?_
            refine c_region ?_
            refine l_mv 2 S rfl ?_; clear S a; intro a S
            refine l_pure S (p_lss rfl rfl) rfl rfl rfl ?_; clear S a; intro a S
            refine l_nil ?_
            refine e_then ?_
            refine c_cond S rfl (fun bc146 => ?_) (fun bc146 => ?_)
            ·
             have c146 := bc146
             have c146 := of_decide_eq_true c146
             refine wp_seq ?_
             refine c_region ?_
             refine l_mv 1 S rfl ?_; clear S a; intro a S
             refine l_pure S (p_mul rfl rfl (mul64 mant 16#64)) rfl rfl rfl ?_; clear S a; intro a S
             refine l_mv 1 S rfl ?_; clear S a; intro a S
             refine l_nil ?_
             refine e_then ?_
             refine wp_seq ?_
             refine c_region ?_
             refine l_mv 2 S rfl ?_; clear S a; intro a S
             have := lw_range (HHW.bt s i) (by omega)
             have hcon := sm.lower_ wb _ B _ (HHW.bt s i) H
             refine l_call S rfl rfl Tryz.func66 rfl rfl (hcon) rfl rfl rfl ?_
             rintro e w ⟨rfl, hH⟩
             refine ⟨_, rfl, ?_⟩; clear S a; intro a S
             clear H hcon; have H := hH; clear hH
             refine l_pure S (p_sub (r := ((lw (HHW.bt s i)) - 97)) rfl rfl (IntWalk.u8_in _ (by omega))) rfl rfl rfl ?_; clear S a; intro a S
             refine l_pure S (p_add (r := (((lw (HHW.bt s i)) - 97) + 10)) rfl rfl (IntWalk.u8_in _ (by omega))) rfl rfl rfl ?_; clear S a; intro a S
             refine l_pure S (p_conv rfl (fun w => cv_int (Tryz.underlying5) (Tryz.underlying22) (fz.ofI64 (((lw (HHW.bt s i)) - 97) + 10)))) rfl rfl rfl ?_; clear S a; intro a S
             refine l_pure S (p_add rfl rfl (add64 (mant * 16#64) (BitVec.ofInt 64 (((lw (HHW.bt s i)) - 97) + 10)))) rfl rfl rfl ?_; clear S a; intro a S
             refine l_mv 1 S rfl ?_; clear S a; intro a S
             refine l_nil ?_
             refine e_then ?_
             refine c_region ?_
             refine l_mv 1 S rfl ?_; clear S a; intro a S
             refine l_pure S (p_add (r := (ndm + 1)) rfl rfl (IntWalk.i64_in _ (by omega))) rfl rfl rfl ?_; clear S a; intro a S
             refine l_mv 1 S rfl ?_; clear S a; intro a S
             refine l_nil ?_
             refine e_then ?_
             refine wp_exit ?_
             refine e_in_other rfl ?_
             refine e_then_exit ?_
             refine e_in_exit ?_
             refine e_then ?_
             refine c_region ?_
             refine l_mv 1 S rfl ?_; clear S a; intro a S
             refine l_pure S (p_add (r := (i + 1)) rfl rfl (IntWalk.i64_in _ (by omega))) rfl rfl rfl ?_; clear S a; intro a S
             refine l_mv 1 S rfl ?_; clear S a; intro a S
             refine l_nil ?_
             refine e_then ?_
             exact ⟨(fu, ((mant * 16#64) + (BitVec.ofInt 64 (((lw (HHW.bt s i)) - 97) + 10))), neg, tr, hex, (i + 1), und, base, mmd, ech, sd, true, (nd + 1), (ndm + 1), dp), ⟨S.only ⟨rfl, rfl, rfl, rfl, rfl, rfl, rfl, rfl, rfl, rfl, rfl, rfl, rfl, rfl, rfl, rfl, rfl, trivial⟩, H, by rw [← hR]; simp only [rfd, bc83, bc86, bc90, bc95, bc138, bc140, bc143, bc146, cond_true, cond_false], by omega, ⟨by omega, by omega, by omega, by omega, by omega⟩⟩, Nat.lt_succ_self fu⟩
            ·
             have c146 := bc146
             have c146 := of_decide_eq_false c146
             refine c_region ?_
             refine l_mv 1 S rfl ?_; clear S a; intro a S
             refine l_nil ?_
             refine e_then ?_
             refine wp_exit ?_
             refine e_in_other rfl ?_
             refine e_then_exit ?_
             refine e_in_exit ?_
             refine e_then ?_
             refine c_region ?_
             refine l_mv 1 S rfl ?_; clear S a; intro a S
             refine l_pure S (p_add (r := (i + 1)) rfl rfl (IntWalk.i64_in _ (by omega))) rfl rfl rfl ?_; clear S a; intro a S
             refine l_mv 1 S rfl ?_; clear S a; intro a S
             refine l_nil ?_
             refine e_then ?_
             exact ⟨(fu, mant, neg, true, hex, (i + 1), und, base, mmd, ech, sd, true, (nd + 1), ndm, dp), ⟨S.only ⟨rfl, rfl, rfl, rfl, rfl, rfl, rfl, rfl, rfl, rfl, rfl, rfl, rfl, rfl, rfl, rfl, rfl, trivial⟩, H, by rw [← hR]; simp only [rfd, bc83, bc86, bc90, bc95, bc138, bc140, bc143, bc146, cond_true, cond_false], by omega, ⟨by omega, by omega, by omega, by omega, by omega⟩⟩, Nat.lt_succ_self fu⟩
           ·
            have c143 := bc143
            replace c143 := is_f c143
            have c143 := of_decide_eq_false c143
            refine wp_skip ?_
            refine e_in 3 ?_
            refine e_then ?_
            refine wp_exit ?_
            refine e_in_other rfl ?_
            refine e_then_exit ?_
            refine e_then_exit ?_
            refine e_in_exit ?_
            refine e_then ?_
            exact ⟨mant, neg, tr, hex, i, und, base, ech, sd, sg, nd, ndm, dp, S.only ⟨rfl, rfl, rfl, rfl, rfl, rfl, rfl, rfl, rfl, rfl, rfl, rfl, rfl, rfl, rfl, rfl, trivial⟩, H, by rw [← hR]; simp only [rfd, bc83, bc86, bc90, bc95, bc138, bc140, bc143, cond_true, cond_false], ⟨by omega, by omega, by omega, by omega⟩⟩
          ·
           have c140 := bc140
           have c140 := of_decide_eq_false c140
           refine l_off S rfl rfl rfl rfl bc140 rfl rfl ?_; clear S a; intro a S
           refine l_off S rfl rfl rfl rfl bc140 rfl rfl ?_; clear S a; intro a S
           refine l_off S rfl rfl rfl rfl bc140 rfl rfl ?_; clear S a; intro a S
           refine l_pure S (p_pick_f rfl bc140 rfl) rfl rfl rfl ?_; clear S a; intro a S
           refine l_pure S (p_beql Tryz.underlying4 rfl rfl) rfl rfl rfl ?_; clear S a; intro a S
           refine l_mv 1 S rfl ?_; clear S a; intro a S
           refine l_nil ?_
           refine e_then ?_
           refine c_cond (b := false) S rfl (fun h => by cases h) (fun _ => ?_)
           refine wp_skip ?_
           refine e_in 3 ?_
           refine e_then ?_
           refine wp_exit ?_
           refine e_in_other rfl ?_
           refine e_then_exit ?_
           refine e_then_exit ?_
           refine e_in_exit ?_
           refine e_then ?_
           exact ⟨mant, neg, tr, hex, i, und, base, ech, sd, sg, nd, ndm, dp, S.only ⟨rfl, rfl, rfl, rfl, rfl, rfl, rfl, rfl, rfl, rfl, rfl, rfl, rfl, rfl, rfl, rfl, trivial⟩, H, by rw [← hR]; simp only [rfd, bc83, bc86, bc90, bc95, bc138, bc140, cond_true, cond_false], ⟨by omega, by omega, by omega, by omega⟩⟩
         ·
          have c138 := bc138
          have c138 := ne_of_beq_false c138
          refine l_off S rfl rfl rfl rfl bc138 rfl rfl ?_; clear S a; intro a S
          refine l_off S rfl rfl rfl rfl bc138 rfl rfl ?_; clear S a; intro a S
          refine l_off S rfl rfl rfl rfl bc138 rfl rfl ?_; clear S a; intro a S
          refine l_pure S (p_pick_f rfl bc138 rfl) rfl rfl rfl ?_; clear S a; intro a S
          refine l_mv 1 S rfl ?_; clear S a; intro a S
          refine l_off S rfl rfl rfl rfl rfl rfl rfl ?_; clear S a; intro a S
          refine l_off S rfl rfl rfl rfl rfl rfl rfl ?_; clear S a; intro a S
          refine l_off S rfl rfl rfl rfl rfl rfl rfl ?_; clear S a; intro a S
          refine l_pure S (p_pick_f rfl rfl rfl) rfl rfl rfl ?_; clear S a; intro a S
          refine l_pure S (p_beql Tryz.underlying4 rfl rfl) rfl rfl rfl ?_; clear S a; intro a S
          refine l_mv 1 S rfl ?_; clear S a; intro a S
          refine l_nil ?_
          refine e_then ?_
          refine c_cond (b := false) S rfl (fun h => by cases h) (fun _ => ?_)
          refine wp_skip ?_
          refine e_in 3 ?_
          refine e_then ?_
          refine wp_exit ?_
          refine e_in_other rfl ?_
          refine e_then_exit ?_
          refine e_then_exit ?_
          refine e_in_exit ?_
          refine e_then ?_
          exact ⟨mant, neg, tr, hex, i, und, base, ech, sd, sg, nd, ndm, dp, S.only ⟨rfl, rfl, rfl, rfl, rfl, rfl, rfl, rfl, rfl, rfl, rfl, rfl, rfl, rfl, rfl, rfl, trivial⟩, H, by rw [← hR]; simp only [rfd, bc83, bc86, bc90, bc95, bc138, cond_true, cond_false], ⟨by omega, by omega, by omega, by omega⟩⟩
     ·
      have c83 := bc83
      have c83 := of_decide_eq_false c83
      refine wp_exit ?_
      refine e_then_exit ?_
      refine e_then_exit ?_
      refine e_in_exit ?_
      refine e_then ?_
      exact ⟨mant, neg, tr, hex, i, und, base, ech, sd, sg, nd, ndm, dp, S.only ⟨rfl, rfl, rfl, rfl, rfl, rfl, rfl, rfl, rfl, rfl, rfl, rfl, rfl, rfl, rfl, rfl, trivial⟩, H, by rw [← hR]; simp only [rfd, bc83, cond_true, cond_false], ⟨by omega, by omega, by omega, by omega⟩⟩
   ·
    refine wp_seq ?_
    refine c_region ?_
    refine l_mv 1 S rfl ?_; clear S a; intro a S
    refine l_pure S (p_add (r := (i + 2)) rfl rfl (IntWalk.i64_in _ (by omega))) rfl rfl rfl ?_; clear S a; intro a S
    refine l_mv 1 S rfl ?_; clear S a; intro a S
    refine l_pure S (p_lens Tryz.underlying9 rfl) rfl rfl rfl ?_; clear S a; intro a S
    refine l_pure S (p_lss rfl rfl) rfl rfl rfl ?_; clear S a; intro a S
    refine l_mv 1 S rfl ?_; clear S a; intro a S
    refine l_split (S.of 41 rfl) (fun bc156 => ?_) (fun bc156 => ?_)
    ·
     have c156 := bc156
     have c156 := of_decide_eq_true c156
     refine l_on S rfl rfl rfl rfl bc156 ?_
     refine l_pure S (p_move rfl) rfl rfl rfl ?_; clear S a; intro a S
     refine l_on S rfl rfl rfl rfl bc156 ?_
     refine l_pure S (p_move rfl) rfl rfl rfl ?_; clear S a; intro a S
     refine l_on S rfl rfl rfl rfl bc156 ?_
     refine l_pure S (p_index rfl rfl (fun w => ix_string Tryz.underlying9 (by omega) (by omega))) rfl rfl rfl ?_; clear S a; intro a S
     have := bt_rng s i
     refine l_on S rfl rfl rfl rfl bc156 ?_
     refine l_pure S (p_eql rfl rfl) rfl rfl rfl ?_; clear S a; intro a S
     refine l_pure S (p_pick_t rfl bc156 rfl) rfl rfl rfl ?_; clear S a; intro a S
     refine l_mv 1 S rfl ?_; clear S a; intro a S
     refine l_split (S.of 47 rfl) (fun bc158 => ?_) (fun bc158 => ?_)
     ·
      have c158 := bc158
      have c158 := eq_of_beq c158
      refine l_on S rfl rfl rfl rfl bc158 ?_
      refine l_pure S (p_move rfl) rfl rfl rfl ?_; clear S a; intro a S
      refine l_on S rfl rfl rfl rfl bc158 ?_
      refine l_pure S (p_move rfl) rfl rfl rfl ?_; clear S a; intro a S
      refine l_on S rfl rfl rfl rfl bc158 ?_
      refine l_pure S (p_add (r := (i + 1)) rfl rfl (IntWalk.i64_in _ (by omega))) rfl rfl rfl ?_; clear S a; intro a S
      refine l_on S rfl rfl rfl rfl bc158 ?_
      refine l_pure S (p_index rfl rfl (fun w => ix_string Tryz.underlying9 (by omega) (by omega))) rfl rfl rfl ?_; clear S a; intro a S
      have := bt_rng s (i + 1)
      refine l_on S rfl rfl rfl rfl bc158 ?_
      have := lw_range (HHW.bt s (i + 1)) (by omega)
      have hcon := sm.lower_ wb _ B _ (HHW.bt s (i + 1)) H
      refine l_call S rfl rfl Tryz.func66 rfl rfl (hcon) rfl rfl rfl ?_
      rintro e w ⟨rfl, hH⟩
      refine ⟨_, rfl, ?_⟩; clear S a; intro a S
      clear H hcon; have H := hH; clear hH
      refine l_on S rfl rfl rfl rfl bc158 ?_
      refine l_pure S (p_eql rfl rfl) rfl rfl rfl ?_; clear S a; intro a S
      refine l_pure S (p_pick_t rfl bc158 rfl) rfl rfl rfl ?_; clear S a; intro a S
      refine l_nil ?_
      refine e_then ?_
      refine c_cond S rfl (fun bc160 => ?_) (fun bc160 => ?_)
      ·
       have c160 := bc160
       have c160 := eq_of_beq c160
       refine wp_seq ?_
       refine c_region ?_
       refine l_mv 1 S rfl ?_; clear S a; intro a S
       refine l_nil ?_
       refine e_then ?_
       refine wp_seq ?_
       refine c_region ?_
       refine l_mv 1 S rfl ?_; clear S a; intro a S
       refine l_nil ?_
       refine e_then ?_
       refine wp_seq ?_
       refine c_region ?_
       refine l_mv 1 S rfl ?_; clear S a; intro a S
       refine l_pure S (p_add (r := (i + 2)) rfl rfl (IntWalk.i64_in _ (by omega))) rfl rfl rfl ?_; clear S a; intro a S
       refine l_mv 1 S rfl ?_; clear S a; intro a S
       refine l_nil ?_
       refine e_then ?_
       refine wp_seq ?_
       refine c_region ?_
       refine l_mv 1 S rfl ?_; clear S a; intro a S
       refine l_nil ?_
       refine e_then ?_
       refine c_region ?_
       refine l_mv 1 S rfl ?_; clear S a; intro a S
       refine l_nil ?_
       refine e_then ?_
       exact ⟨neg, true, (i + 2), (16#64), 16, 112, S.only ⟨rfl, rfl, rfl, rfl, rfl, rfl, rfl, rfl, rfl, rfl, rfl, rfl, trivial⟩, H, by rw [← hR]; simp only [rf1, bc156, bc158, bc160, cond_true, cond_false], ⟨by omega, by omega⟩⟩
      ·
       have c160 := bc160
       have c160 := ne_of_beq_false c160
       refine wp_skip ?_
       refine e_then ?_
       exact ⟨neg, false, i, (10#64), 19, 101, S.only ⟨rfl, rfl, rfl, rfl, rfl, rfl, rfl, rfl, rfl, rfl, rfl, rfl, trivial⟩, H, by rw [← hR]; simp only [rf1, bc156, bc158, bc160, cond_true, cond_false], ⟨by omega, by omega⟩⟩
     ·
      have c158 := bc158
      have c158 := ne_of_beq_false c158
      refine l_off S rfl rfl rfl rfl bc158 rfl rfl ?_; clear S a; intro a S
      refine l_off S rfl rfl rfl rfl bc158 rfl rfl ?_; clear S a; intro a S
      refine l_off S rfl rfl rfl rfl bc158 rfl rfl ?_; clear S a; intro a S
      refine l_off S rfl rfl rfl rfl bc158 rfl rfl ?_; clear S a; intro a S
      refine l_off S rfl rfl rfl rfl bc158 rfl rfl ?_; clear S a; intro a S
      refine l_off S rfl rfl rfl rfl bc158 rfl rfl ?_; clear S a; intro a S
      refine l_pure S (p_pick_f rfl bc158 rfl) rfl rfl rfl ?_; clear S a; intro a S
      refine l_nil ?_
      refine e_then ?_
      refine c_cond (b := false) S rfl (fun h => by cases h) (fun _ => ?_)
      refine wp_skip ?_
      refine e_then ?_
      exact ⟨neg, false, i, (10#64), 19, 101, S.only ⟨rfl, rfl, rfl, rfl, rfl, rfl, rfl, rfl, rfl, rfl, rfl, rfl, trivial⟩, H, by rw [← hR]; simp only [rf1, bc156, bc158, cond_true, cond_false], ⟨by omega, by omega⟩⟩
    ·
     have c156 := bc156
     have c156 := of_decide_eq_false c156
     refine l_off S rfl rfl rfl rfl bc156 rfl rfl ?_; clear S a; intro a S
     refine l_off S rfl rfl rfl rfl bc156 rfl rfl ?_; clear S a; intro a S
     refine l_off S rfl rfl rfl rfl bc156 rfl rfl ?_; clear S a; intro a S
     refine l_off S rfl rfl rfl rfl bc156 rfl rfl ?_; clear S a; intro a S
     refine l_pure S (p_pick_f rfl bc156 rfl) rfl rfl rfl ?_; clear S a; intro a S
     refine l_mv 1 S rfl ?_; clear S a; intro a S
     refine l_off S rfl rfl rfl rfl rfl rfl rfl ?_; clear S a; intro a S
     refine l_off S rfl rfl rfl rfl rfl rfl rfl ?_; clear S a; intro a S
     refine l_off S rfl rfl rfl rfl rfl rfl rfl ?_; clear S a; intro a S
     refine l_off S rfl rfl rfl rfl rfl rfl rfl ?_; clear S a; intro a S
     refine l_off S rfl rfl rfl rfl rfl rfl rfl ?_; clear S a; intro a S
     refine l_off S rfl rfl rfl rfl rfl rfl rfl ?_; clear S a; intro a S
     refine l_pure S (p_pick_f rfl rfl rfl) rfl rfl rfl ?_; clear S a; intro a S
     refine l_nil ?_
     refine e_then ?_
     refine c_cond (b := false) S rfl (fun h => by cases h) (fun _ => ?_)
     refine wp_skip ?_
     refine e_then ?_
     exact ⟨neg, false, i, (10#64), 19, 101, S.only ⟨rfl, rfl, rfl, rfl, rfl, rfl, rfl, rfl, rfl, rfl, rfl, rfl, trivial⟩, H, by rw [← hR]; simp only [rf1, bc156, cond_true, cond_false], ⟨by omega, by omega⟩⟩
  ·
   refine wp_seq ?_
   refine c_region ?_
   refine l_mv 2 S rfl ?_; clear S a; intro a S
   refine l_pure S (p_index rfl rfl (fun w => ix_string Tryz.underlying9 (by omega) (by omega))) rfl rfl rfl ?_; clear S a; intro a S
   have := bt_rng s 0
   refine l_nil ?_
   refine e_then ?_
   refine wp_block ?_
   refine wp_seq ?_
   refine c_region ?_
   refine l_pure S (p_eql rfl rfl) rfl rfl rfl ?_; clear S a; intro a S
   refine l_mv 1 S rfl ?_; clear S a; intro a S
   refine l_nil ?_
   refine e_then ?_
   refine c_cond S rfl (fun bc168 => ?_) (fun bc168 => ?_)
   ·
    have c168 := bc168
    have c168 := eq_of_beq c168
    refine c_region ?_
    refine l_mv 1 S rfl ?_; clear S a; intro a S
    refine l_pure S (p_add (r := 1) rfl rfl (by decide)) rfl rfl rfl ?_; clear S a; intro a S
    refine l_mv 1 S rfl ?_; clear S a; intro a S
    refine l_nil ?_
    refine e_in 0 ?_
    refine e_then ?_
    exact ⟨false, 1, S.only ⟨rfl, rfl, rfl, rfl, rfl, rfl, rfl, rfl, rfl, trivial⟩, H, by rw [← hR]; simp only [rf, bc7, bc168, cond_true, cond_false], by omega⟩
   ·
    have c168 := bc168
    have c168 := ne_of_beq_false c168
    refine wp_seq ?_
    refine c_region ?_
    refine l_pure S (p_eql rfl rfl) rfl rfl rfl ?_; clear S a; intro a S
    refine l_mv 1 S rfl ?_; clear S a; intro a S
    refine l_nil ?_
    refine e_then ?_
    refine c_cond S rfl (fun bc170 => ?_) (fun bc170 => ?_)
    ·
     have c170 := bc170
     have c170 := eq_of_beq c170
     refine wp_seq ?_
     refine c_region ?_
     refine l_mv 1 S rfl ?_; clear S a; intro a S
     refine l_pure S (p_add (r := 1) rfl rfl (by decide)) rfl rfl rfl ?_; clear S a; intro a S
     refine l_mv 1 S rfl ?_; clear S a; intro a S
     refine l_nil ?_
     refine e_then ?_
     refine c_region ?_
     refine l_mv 1 S rfl ?_; clear S a; intro a S
     refine l_nil ?_
     refine e_in 0 ?_
     refine e_then ?_
     exact ⟨true, 1, S.only ⟨rfl, rfl, rfl, rfl, rfl, rfl, rfl, rfl, rfl, trivial⟩, H, by rw [← hR]; simp only [rf, bc7, bc168, bc170, cond_true, cond_false], by omega⟩
    ·
     have c170 := bc170
     have c170 := ne_of_beq_false c170
     refine wp_skip ?_
     refine e_in 0 ?_
     refine e_then ?_
     exact ⟨false, 0, S.only ⟨rfl, rfl, rfl, rfl, rfl, rfl, rfl, rfl, rfl, trivial⟩, H, by rw [← hR]; simp only [rf, bc7, bc168, bc170, cond_true, cond_false], by omega⟩
end rd
end Go.Proofs.YtneoieigaakoaaaGreatDoor.pf
end
section
namespace Go.Proofs.YtneoieigaakoaaaGreatDoor.fx
open Go.RowKit Go.Proofs.HHW Go.Proofs.YtneoieigaakoaaaGreatDoorW.PrintWords
theorem mk73 (w : World) (n : Int) : (Instr.makeInterface 73 (.int .i64 n)).run Tryz.prog w = .ok (.iface 73 (.int .i64 n)) w := by kernel_rfl
theorem fb_run (x : BitVec 64) (w : World) : (callFunc 62 #[.int .u64 (x.toNat : Int)]).run Tryz.prog w = .ok (.value (.float .f64 x.toNat)) w := by kernel_rfl
theorem ag22 : aggB Tryz.prog 22 = some false := by kernel_rfl
theorem ag3 : aggB Tryz.prog 3 = some false := by kernel_rfl
theorem fa128_2 (w : World) (g o : Nat) : (Instr.fieldAt 128 (.pointer (some ⟨g, o, none⟩)) 2).run Tryz.prog w = .ok (.pointer (some ⟨g, o + 2, none⟩)) w := by kernel_rfl
theorem sz22 : szB Tryz.prog 22 = some 1 := by kernel_rfl
theorem sz3 : szB Tryz.prog 3 = some 1 := by kernel_rfl
theorem ag23 : aggB Tryz.prog 23 = some false := by kernel_rfl
theorem ag87 : aggB Tryz.prog 87 = some false := by kernel_rfl
theorem fa103_0 (w : World) (g o : Nat) : (Instr.fieldAt 103 (.pointer (some ⟨g, o, none⟩)) 0).run Tryz.prog w = .ok (.pointer (some ⟨g, o + 0, none⟩)) w := by kernel_rfl
theorem sz23 : szB Tryz.prog 23 = some 1 := by kernel_rfl
theorem fa103_1 (w : World) (g o : Nat) : (Instr.fieldAt 103 (.pointer (some ⟨g, o, none⟩)) 1).run Tryz.prog w = .ok (.pointer (some ⟨g, o + 1, none⟩)) w := by kernel_rfl
theorem fa103_2 (w : World) (g o : Nat) : (Instr.fieldAt 103 (.pointer (some ⟨g, o, none⟩)) 2).run Tryz.prog w = .ok (.pointer (some ⟨g, o + 2, none⟩)) w := by kernel_rfl
theorem fa113_0 (w : World) (g o : Nat) : (Instr.fieldAt 113 (.pointer (some ⟨g, o, none⟩)) 0).run Tryz.prog w = .ok (.pointer (some ⟨g, o + 0, none⟩)) w := by kernel_rfl
theorem fa113_1 (w : World) (g o : Nat) : (Instr.fieldAt 113 (.pointer (some ⟨g, o, none⟩)) 1).run Tryz.prog w = .ok (.pointer (some ⟨g, o + 800, none⟩)) w := by kernel_rfl
theorem fa113_2 (w : World) (g o : Nat) : (Instr.fieldAt 113 (.pointer (some ⟨g, o, none⟩)) 2).run Tryz.prog w = .ok (.pointer (some ⟨g, o + 801, none⟩)) w := by kernel_rfl
theorem fa113_3 (w : World) (g o : Nat) : (Instr.fieldAt 113 (.pointer (some ⟨g, o, none⟩)) 3).run Tryz.prog w = .ok (.pointer (some ⟨g, o + 802, none⟩)) w := by kernel_rfl
theorem fa113_4 (w : World) (g o : Nat) : (Instr.fieldAt 113 (.pointer (some ⟨g, o, none⟩)) 4).run Tryz.prog w = .ok (.pointer (some ⟨g, o + 803, none⟩)) w := by kernel_rfl
theorem sz4 : szB Tryz.prog 4 = some 1 := by kernel_rfl
theorem sz5 : szB Tryz.prog 5 = some 1 := by kernel_rfl
theorem ag4 : aggB Tryz.prog 4 = some false := by kernel_rfl
theorem ag5 : aggB Tryz.prog 5 = some false := by kernel_rfl
theorem ag9 : aggB Tryz.prog 9 = some false := by kernel_rfl
theorem mi35 : Tryz.prog.underlying 35 = some (.interface (Tryz.prog.methodsAt 35)) := by kernel_rfl
theorem ag25 : aggB Tryz.prog 25 = some true := by kernel_rfl
theorem ag33 : aggB Tryz.prog 33 = some true := by kernel_rfl
theorem sz25 : szB Tryz.prog 25 = some 6 := by kernel_rfl
theorem sz33 : szB Tryz.prog 33 = some 3 := by kernel_rfl
theorem zv25 : zvB Tryz.prog 25 = some (.agg #[.int .i64 0, .string ⟨#[]⟩, .int .i64 0, .int .u64 0, .float .f64 0, .bool false]) := by kernel_rfl
theorem ag35 : aggB Tryz.prog 35 = some false := by kernel_rfl
theorem zv33 : zvB Tryz.prog 33 = some (.agg #[.int .u64 0, .slice none 0 0, .int .u8 0]) := by kernel_rfl
theorem bld25_  : Tryz.prog.built 25 [] = some #[.int .i64 0, .string ⟨#[]⟩, .int .i64 0, .int .u64 0, .float .f64 0, .bool false] := by kernel_rfl
theorem fa25_0 (w : World) (g o : Nat) : (Instr.fieldAt 25 (.pointer (some ⟨g, o, none⟩)) 0).run Tryz.prog w = .ok (.pointer (some ⟨g, o + 0, none⟩)) w := by kernel_rfl
theorem fa25_1 (w : World) (g o : Nat) : (Instr.fieldAt 25 (.pointer (some ⟨g, o, none⟩)) 1).run Tryz.prog w = .ok (.pointer (some ⟨g, o + 1, none⟩)) w := by kernel_rfl
theorem fa25_2 (w : World) (g o : Nat) : (Instr.fieldAt 25 (.pointer (some ⟨g, o, none⟩)) 2).run Tryz.prog w = .ok (.pointer (some ⟨g, o + 2, none⟩)) w := by kernel_rfl
theorem fa25_3 (w : World) (g o : Nat) : (Instr.fieldAt 25 (.pointer (some ⟨g, o, none⟩)) 3).run Tryz.prog w = .ok (.pointer (some ⟨g, o + 3, none⟩)) w := by kernel_rfl
theorem fa25_4 (w : World) (g o : Nat) : (Instr.fieldAt 25 (.pointer (some ⟨g, o, none⟩)) 4).run Tryz.prog w = .ok (.pointer (some ⟨g, o + 4, none⟩)) w := by kernel_rfl
theorem fa25_5 (w : World) (g o : Nat) : (Instr.fieldAt 25 (.pointer (some ⟨g, o, none⟩)) 5).run Tryz.prog w = .ok (.pointer (some ⟨g, o + 5, none⟩)) w := by kernel_rfl
end Go.Proofs.YtneoieigaakoaaaGreatDoor.fx
end
