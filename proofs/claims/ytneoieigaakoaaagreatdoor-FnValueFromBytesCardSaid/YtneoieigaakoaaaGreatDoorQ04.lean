/- The proof of laws.FnValueFromBytes: a value of a kind is read from any bytes as the rules of its kind say, or refused; what is too great is told so. Conditions: those of the given row (the listed variables read as laid). -/
import Derived.Test.YtneoieigaakoaaaGreatDoorQ03
import Derived.Test.YtneoieigaakoaaaGreatDoorQ02
import Derived.Test.YtneoieigaakoaaaGreatDoorProg
import GoSem.PinnedTables
set_option linter.unusedVariables false
set_option linter.unusedSimpArgs false
section
namespace Go.Proofs.YtneoieigaakoaaaGreatDoor.pf
open Go.Proofs.YtneoieigaakoaaaGreatDoor.fx
open Go.RowKit Go.Proofs.HHW Go.Proofs.YtneoieigaakoaaaGreatDoorW.PrintWords
namespace d2
def sd4 (s : ByteArray) (i : Int) (gz : Bool) (E : Int → Int) (nz : Int) (pz : Int) (tz : Bool) : (Int → Int) × Int × Int × Bool × Bool × Bool := (bif (i != ((s.size : Nat) : Int)) then (E, nz, pz, gz, tz, false) else (E, nz, pz, gz, tz, true))
def sd6 (s : ByteArray) (i : Int) (es : Int) (ee : Int) (gz : Bool) (E : Int → Int) (nz : Int) (pz : Int) (tz : Bool) : (Int → Int) × Int × Int × Bool × Bool × Bool := sd4 s i gz E nz (pz + (ee * es)) tz
def sde (s : ByteArray) : Nat → Int → Int → Int → Bool → (Int → Int) → Int → Int → Bool → (Int → Int) × Int × Int × Bool × Bool × Bool
 | 0, _, _, _, _, _, _, _, _ => default
 | fu + 1, i, es, ee, gz, E, nz, pz, tz => (bif (decide (i < ((s.size : Nat) : Int))) then (bif (decide (48 ≤ (HHW.bt s i))) then (bif (decide ((HHW.bt s i) ≤ 57)) then (bif ((HHW.bt s i) == 95) then sde s fu (i + 1) es ee gz E nz pz tz else (bif (decide (ee < 10000)) then sde s fu (i + 1) es (((ee * 10) + (HHW.bt s i)) - 48) gz E nz pz tz else sde s fu (i + 1) es ee gz E nz pz tz)) else (bif ((HHW.bt s i) == 95) then sde s fu (i + 1) es ee gz E nz pz tz else sd6 s i es ee gz E nz pz tz)) else (bif ((HHW.bt s i) == 95) then sde s fu (i + 1) es ee gz E nz pz tz else sd6 s i es ee gz E nz pz tz)) else sd6 s i es ee gz E nz pz tz)
def sd5 (s : ByteArray) (i : Int) (es : Int) (gz : Bool) (E : Int → Int) (nz : Int) (pz : Int) (tz : Bool) : (Int → Int) × Int × Int × Bool × Bool × Bool := (bif (decide (i ≥ ((s.size : Nat) : Int))) then (E, nz, pz, gz, tz, false) else (bif (decide ((HHW.bt s i) < 48)) then (E, nz, pz, gz, tz, false) else (bif (decide ((HHW.bt s i) > 57)) then (E, nz, pz, gz, tz, false) else sde s ((((s.size : Int) - i).toNat) + 1) i es 0 gz E nz pz tz)))
def sd3 (s : ByteArray) (i : Int) (gz : Bool) (E : Int → Int) (nz : Int) (pz : Int) (tz : Bool) : (Int → Int) × Int × Int × Bool × Bool × Bool := (bif (decide (i < ((s.size : Nat) : Int))) then (bif ((lw (HHW.bt s i)) == 101) then (bif (decide ((i + 1) ≥ ((s.size : Nat) : Int))) then (E, nz, pz, gz, tz, false) else (bif ((HHW.bt s (i + 1)) == 43) then sd5 s ((i + 1) + 1) 1 gz E nz pz tz else (bif ((HHW.bt s (i + 1)) == 45) then sd5 s ((i + 1) + 1) (-1) gz E nz pz tz else sd5 s (i + 1) 1 gz E nz pz tz))) else sd4 s i gz E nz pz tz) else sd4 s i gz E nz pz tz)
def sd2 (s : ByteArray) (i : Int) (sd : Bool) (sg : Bool) (gz : Bool) (E : Int → Int) (nz : Int) (pz : Int) (tz : Bool) : (Int → Int) × Int × Int × Bool × Bool × Bool := (bif (!sg) then (E, nz, pz, gz, tz, false) else (bif (!sd) then sd3 s i gz E nz nz tz else sd3 s i gz E nz pz tz))
def sdl (s : ByteArray) : Nat → Int → Bool → Bool → Bool → (Int → Int) → Int → Int → Bool → (Int → Int) × Int × Int × Bool × Bool × Bool
 | 0, _, _, _, _, _, _, _, _ => default
 | fu + 1, i, sd, sg, gz, E, nz, pz, tz => (bif (decide (i < ((s.size : Nat) : Int))) then (bif ((HHW.bt s i) == 95) then sdl s fu (i + 1) sd sg gz E nz pz tz else (bif ((HHW.bt s i) == 46) then (bif sd then (E, nz, pz, gz, tz, false) else sdl s fu (i + 1) true sg gz E nz nz tz) else (bif (decide (48 ≤ (HHW.bt s i))) then (bif (decide ((HHW.bt s i) ≤ 57)) then (bif ((HHW.bt s i) == 48) then (bif (nz == 0) then sdl s fu (i + 1) sd true gz E nz (pz - 1) tz else (bif (decide (nz < 800)) then sdl s fu (i + 1) sd true gz (upd E nz (HHW.bt s i)) (nz + 1) pz tz else (bif ((HHW.bt s i) != 48) then sdl s fu (i + 1) sd true gz E nz pz true else sdl s fu (i + 1) sd true gz E nz pz tz))) else (bif (decide (nz < 800)) then sdl s fu (i + 1) sd true gz (upd E nz (HHW.bt s i)) (nz + 1) pz tz else (bif ((HHW.bt s i) != 48) then sdl s fu (i + 1) sd true gz E nz pz true else sdl s fu (i + 1) sd true gz E nz pz tz))) else sd2 s i sd sg gz E nz pz tz) else sd2 s i sd sg gz E nz pz tz))) else sd2 s i sd sg gz E nz pz tz)
def sd1 (s : ByteArray) (i : Int) (gz : Bool) : (Int → Int) × Int × Int × Bool × Bool × Bool := sdl s ((((s.size : Int) - i).toNat) + 1) i false false gz Z0 0 0 false
def dset (s : ByteArray) : (Int → Int) × Int × Int × Bool × Bool × Bool := (bif (decide (0 ≥ ((s.size : Nat) : Int))) then (Z0, 0, 0, false, false, false) else (bif ((HHW.bt s 0) == 43) then sd1 s 1 false else (bif ((HHW.bt s 0) == 45) then sd1 s 1 true else sd1 s 0 false)))
set_option maxHeartbeats 2000000 in
theorem dset_ (wb w0 : World) (B : Nat) (L0 : List (Nat × Obj)) (gd : Nat) (s : ByteArray) (hs : s.size ≤ 1000000) (H : HH B wb w0 ((gd, .cells (decC Z0 0 0 false false) 113 (0, 0)) :: L0)) : Calls Tryz.prog 59 #[.pointer (some ⟨gd, 0, none⟩), .string s] w0 fun e w' => e = .returned (.bool (dset s).2.2.2.2.2) ∧ HH B wb w' ((gd, .cells (decC (dset s).1 (dset s).2.1 (dset s).2.2.1 (dset s).2.2.2.1 (dset s).2.2.2.2.1) 113 (0, 0)) :: L0) ∧ Dg (dset s).1 (dset s).2.1 ∧ (0 ≤ (dset s).2.1 ∧ (dset s).2.1 ≤ 800) ∧ (-3000000 ≤ (dset s).2.2.1 ∧ (dset s).2.2.1 ≤ 3000000) := by
 generalize hR : dset s = R
 refine c_enter (args := [.pointer (some ⟨gd, 0, none⟩), .string s]) (k := 222) Tryz.func59 rfl rfl rfl (fun a S => ?_)
 refine wp_seq ?_
 refine c_region ?_
 refine l_mv 1 S rfl ?_; clear S a; intro a S
 refine l_nil ?_
 refine e_then ?_
 refine wp_seq ?_
 refine c_region ?_
 refine l_mv 1 S rfl ?_; clear S a; intro a S
 refine l_nil ?_
 refine e_then ?_
 refine wp_seq ?_
 refine c_region ?_
 refine l_mv 2 S rfl ?_; clear S a; intro a S
 refine l_pure S (p_fieldAddr rfl (fun w => fa113_3 w _ _)) rfl rfl rfl ?_; clear S a; intro a S
 refine l_store S H rfl rfl rfl (Upd.cast (set_ng (v := false)) .here) (by rw [dec_size]; omega) (fun w u hc hz => st1 sz4 rfl hc hz) rfl rfl ?_; clear S a H; intro w a H S
 refine l_nil ?_
 refine e_then ?_
 refine wp_seq ?_
 refine c_region ?_
 refine l_mv 2 S rfl ?_; clear S a; intro a S
 refine l_pure S (p_fieldAddr rfl (fun w => fa113_4 w _ _)) rfl rfl rfl ?_; clear S a; intro a S
 refine l_store S H rfl rfl rfl (Upd.cast (set_tr (v := false)) .here) (by rw [dec_size]; omega) (fun w u hc hz => st1 sz4 rfl hc hz) rfl rfl ?_; clear S a H; intro w a H S
 refine l_nil ?_
 refine e_then ?_
 refine wp_seq ?_
 refine wp_seq ?_
 refine c_region ?_
 refine l_mv 2 S rfl ?_; clear S a; intro a S
 refine l_pure S (p_lens Tryz.underlying9 rfl) rfl rfl rfl ?_; clear S a; intro a S
 refine l_pure S (p_geq rfl rfl) rfl rfl rfl ?_; clear S a; intro a S
 refine l_nil ?_
 refine e_then ?_
 refine c_cond S rfl (fun bc3 => ?_) (fun bc3 => ?_)
 ·
  have c3 := bc3
  have c3 := of_decide_eq_true c3
  refine wp_ret ?_
  refine e_then_ret ?_
  have eR : R = (Z0, 0, 0, false, false, false) := by rw [← hR]; simp only [dset, bc3, cond_true, cond_false]
  clear hR; subst eR
  exact r_ret1 S rfl rfl ⟨rfl, H, Dg.zero _, by dsimp only; omega, by dsimp only; omega⟩
 ·
  have c3 := bc3
  have c3 := of_decide_eq_false c3
  refine wp_skip ?_
  refine e_then ?_
  refine c_cut (fun a w => ∃ i : Int, ∃ gz : Bool, SL a 224 [] [(0, .pointer (some ⟨gd, 0, none⟩)), (1, .string s), (4, .bool false), (5, .int .i64 i)] ∧ HH B wb w ((gd, .cells (decC Z0 0 0 gz false) 113 (0, 0)) :: L0) ∧ sd1 s i gz = R ∧ (0 ≤ i ∧ i ≤ s.size)) ?_ ?_
  ·
   clear S a H hR; rintro a w ⟨i, gz, S, H, hR, hinv⟩
   have hi := hinv
   refine wp_seq ?_
   refine c_region ?_
   refine l_mv 1 S rfl ?_; clear S a; intro a S
   refine l_nil ?_
   refine e_then ?_
   refine wp_seq ?_
   refine c_region ?_
   refine l_mv 1 S rfl ?_; clear S a; intro a S
   refine l_nil ?_
   refine e_then ?_
   refine c_cut (fun a w => ∃ i : Int, ∃ sd : Bool, ∃ sg : Bool, ∃ gz : Bool, ∃ E : Int → Int, ∃ nz : Int, ∃ pz : Int, ∃ tz : Bool, SL a 224 [] [(0, .pointer (some ⟨gd, 0, none⟩)), (1, .string s), (4, .bool false), (5, .int .i64 i), (6, .bool sd), (7, .bool sg)] ∧ HH B wb w ((gd, .cells (decC E nz pz gz tz) 113 (0, 0)) :: L0) ∧ sd2 s i sd sg gz E nz pz tz = R ∧ ((0 ≤ i ∧ i ≤ s.size) ∧ Dg E nz ∧ (0 ≤ nz ∧ nz ≤ 800) ∧ (-i ≤ pz ∧ pz ≤ i))) ?_ ?_
   ·
    clear S a H hR; rintro a w ⟨i, sd, sg, gz, E, nz, pz, tz, S, H, hR, hinv⟩
    obtain ⟨hi, hD, hn, hp⟩ := hinv
    refine wp_seq ?_
    refine wp_seq ?_
    refine c_region ?_
    refine l_mv 1 S rfl ?_; clear S a; intro a S
    refine l_pure S (p_not rfl) rfl rfl rfl ?_; clear S a; intro a S
    refine l_nil ?_
    refine e_then ?_
    refine c_cond S rfl (fun bc8 => ?_) (fun bc8 => ?_)
    ·
     have c8 := bc8
     replace c8 := not_eq_true_ c8
     refine wp_ret ?_
     refine e_then_ret ?_
     have eR : R = (E, nz, pz, gz, tz, false) := by rw [← hR]; simp only [sd2, bc8, cond_true, cond_false]
     clear hR; subst eR
     exact r_ret1 S rfl rfl ⟨rfl, H, hD, by dsimp only; omega, by dsimp only; omega⟩
    ·
     have c8 := bc8
     replace c8 := not_eq_false_ c8
     refine wp_skip ?_
     refine e_then ?_
     refine c_cut (fun a w => ∃ i : Int, ∃ gz : Bool, ∃ E : Int → Int, ∃ nz : Int, ∃ pz : Int, ∃ tz : Bool, SL a 224 [] [(0, .pointer (some ⟨gd, 0, none⟩)), (1, .string s), (4, .bool false), (5, .int .i64 i)] ∧ HH B wb w ((gd, .cells (decC E nz pz gz tz) 113 (0, 0)) :: L0) ∧ sd3 s i gz E nz pz tz = R ∧ ((0 ≤ i ∧ i ≤ s.size) ∧ Dg E nz ∧ (0 ≤ nz ∧ nz ≤ 800) ∧ (-2000000 ≤ pz ∧ pz ≤ 2000000))) ?_ ?_
     ·
      clear S a H hR; rintro a w ⟨i, gz, E, nz, pz, tz, S, H, hR, hinv⟩
      obtain ⟨hi, hD, hn, hp⟩ := hinv
      refine c_cut (fun a w => ∃ i : Int, ∃ gz : Bool, ∃ E : Int → Int, ∃ nz : Int, ∃ pz : Int, ∃ tz : Bool, SL a 224 [] [(0, .pointer (some ⟨gd, 0, none⟩)), (1, .string s), (4, .bool false), (5, .int .i64 i)] ∧ HH B wb w ((gd, .cells (decC E nz pz gz tz) 113 (0, 0)) :: L0) ∧ sd4 s i gz E nz pz tz = R ∧ ((0 ≤ i ∧ i ≤ s.size) ∧ Dg E nz ∧ (0 ≤ nz ∧ nz ≤ 800) ∧ (-3000000 ≤ pz ∧ pz ≤ 3000000))) ?_ ?_
      ·
       clear S a H hR; rintro a w ⟨i, gz, E, nz, pz, tz, S, H, hR, hinv⟩
       obtain ⟨hi, hD, hn, hp⟩ := hinv
       refine wp_seq ?_
       refine wp_seq ?_
       refine c_region ?_
       refine l_mv 2 S rfl ?_; clear S a; intro a S
       refine l_pure S (p_lens Tryz.underlying9 rfl) rfl rfl rfl ?_; clear S a; intro a S
       refine l_pure S (p_neq rfl rfl) rfl rfl rfl ?_; clear S a; intro a S
       refine l_nil ?_
       refine e_then ?_
       refine c_cond S rfl (fun bc10 => ?_) (fun bc10 => ?_)
       ·
        have c10 := bc10
        have c10 := bne_iff_ne.1 c10
        refine wp_ret ?_
        refine e_then_ret ?_
        have eR : R = (E, nz, pz, gz, tz, false) := by rw [← hR]; simp only [sd4, bc10, cond_true, cond_false]
        clear hR; subst eR
        exact r_ret1 S rfl rfl ⟨rfl, H, hD, by dsimp only; omega, by dsimp only; omega⟩
       ·
        have c10 := bc10
        have c10 := bne_eq_false_iff_eq.1 c10
        refine wp_skip ?_
        refine e_then ?_
        refine wp_seq ?_
        refine c_region ?_
        refine l_mv 1 S rfl ?_; clear S a; intro a S
        refine l_nil ?_
        refine e_then ?_
        refine wp_ret ?_
        have eR : R = (E, nz, pz, gz, tz, true) := by rw [← hR]; simp only [sd4, bc10, cond_true, cond_false]
        clear hR; subst eR
        exact r_ret1 S rfl rfl ⟨rfl, H, hD, by dsimp only; omega, by dsimp only; omega⟩
      ·
       refine wp_seq ?_
       refine c_region ?_
       refine l_mv 2 S rfl ?_; clear S a; intro a S
       refine l_pure S (p_lens Tryz.underlying9 rfl) rfl rfl rfl ?_; clear S a; intro a S
       refine l_pure S (p_lss rfl rfl) rfl rfl rfl ?_; clear S a; intro a S
       refine l_mv 1 S rfl ?_; clear S a; intro a S
       refine l_split (S.of 132 rfl) (fun bc13 => ?_) (fun bc13 => ?_)
       ·
        have c13 := bc13
        have c13 := of_decide_eq_true c13
        refine l_on S rfl rfl rfl rfl bc13 ?_
        refine l_pure S (p_move rfl) rfl rfl rfl ?_; clear S a; intro a S
        refine l_on S rfl rfl rfl rfl bc13 ?_
        refine l_pure S (p_move rfl) rfl rfl rfl ?_; clear S a; intro a S
        refine l_on S rfl rfl rfl rfl bc13 ?_
        refine l_pure S (p_index rfl rfl (fun w => ix_string Tryz.underlying9 (by omega) (by omega))) rfl rfl rfl ?_; clear S a; intro a S
        have := bt_rng s i
        refine l_on S rfl rfl rfl rfl bc13 ?_
        have := lw_range (HHW.bt s i) (by omega)
        have hcon := sm.lower_ wb _ B _ (HHW.bt s i) H
        refine l_call S rfl rfl Tryz.func66 rfl rfl (hcon) rfl rfl rfl ?_
        rintro e w ⟨rfl, hH⟩
        refine ⟨_, rfl, ?_⟩; clear S a; intro a S
        clear H hcon; have H := hH; clear hH
        refine l_on S rfl rfl rfl rfl bc13 ?_
        refine l_pure S (p_eql rfl rfl) rfl rfl rfl ?_; clear S a; intro a S
        refine l_pure S (p_pick_t rfl bc13 rfl) rfl rfl rfl ?_; clear S a; intro a S
        refine l_nil ?_
        refine e_then ?_
        refine c_cond S rfl (fun bc15 => ?_) (fun bc15 => ?_)
        ·
         have c15 := bc15
         have c15 := eq_of_beq c15
         refine wp_seq ?_
         refine c_region ?_
         refine l_mv 1 S rfl ?_; clear S a; intro a S
         refine l_pure S (p_add (r := (i + 1)) rfl rfl (IntWalk.i64_in _ (by omega))) rfl rfl rfl ?_; clear S a; intro a S
         refine l_mv 1 S rfl ?_; clear S a; intro a S
         refine l_nil ?_
         refine e_then ?_
         refine wp_seq ?_
         refine wp_seq ?_
         refine c_region ?_
         refine l_mv 2 S rfl ?_; clear S a; intro a S
         refine l_pure S (p_lens Tryz.underlying9 rfl) rfl rfl rfl ?_; clear S a; intro a S
         refine l_pure S (p_geq rfl rfl) rfl rfl rfl ?_; clear S a; intro a S
         refine l_nil ?_
         refine e_then ?_
         refine c_cond S rfl (fun bc17 => ?_) (fun bc17 => ?_)
         ·
          have c17 := bc17
          have c17 := of_decide_eq_true c17
          refine wp_ret ?_
          refine e_then_ret ?_
          refine e_then_ret ?_
          have eR : R = (E, nz, pz, gz, tz, false) := by rw [← hR]; simp only [sd3, bc13, bc15, bc17, cond_true, cond_false]
          clear hR; subst eR
          exact r_ret1 S rfl rfl ⟨rfl, H, hD, by dsimp only; omega, by dsimp only; omega⟩
         ·
          have c17 := bc17
          have c17 := of_decide_eq_false c17
          refine wp_skip ?_
          refine e_then ?_
          refine wp_seq ?_
          refine c_region ?_
          refine l_mv 1 S rfl ?_; clear S a; intro a S
          refine l_nil ?_
          refine e_then ?_
          refine c_cut (fun a w => ∃ i : Int, ∃ es : Int, ∃ gz : Bool, ∃ E : Int → Int, ∃ nz : Int, ∃ pz : Int, ∃ tz : Bool, SL a 224 [] [(0, .pointer (some ⟨gd, 0, none⟩)), (1, .string s), (4, .bool false), (5, .int .i64 i), (8, .int .i64 es)] ∧ HH B wb w ((gd, .cells (decC E nz pz gz tz) 113 (0, 0)) :: L0) ∧ sd5 s i es gz E nz pz tz = R ∧ ((0 ≤ i ∧ i ≤ s.size) ∧ Dg E nz ∧ (0 ≤ nz ∧ nz ≤ 800) ∧ (-2000000 ≤ pz ∧ pz ≤ 2000000) ∧ (es = 1 ∨ es = -1))) ?_ ?_
          ·
           clear S a H hR; rintro a w ⟨i, es, gz, E, nz, pz, tz, S, H, hR, hinv⟩
           obtain ⟨hi, hD, hn, hp, hes⟩ := hinv
           refine wp_seq ?_
           refine wp_seq ?_
           refine c_region ?_
           refine l_mv 2 S rfl ?_; clear S a; intro a S
           refine l_pure S (p_lens Tryz.underlying9 rfl) rfl rfl rfl ?_; clear S a; intro a S
           refine l_pure S (p_geq rfl rfl) rfl rfl rfl ?_; clear S a; intro a S
           refine l_mv 1 S rfl ?_; clear S a; intro a S
           refine l_split (S.of 160 rfl) (fun bc19 => ?_) (fun bc19 => ?_)
           ·
            have c19 := bc19
            have c19 := of_decide_eq_true c19
            refine l_off S rfl rfl rfl rfl bc19 rfl rfl ?_; clear S a; intro a S
            refine l_off S rfl rfl rfl rfl bc19 rfl rfl ?_; clear S a; intro a S
            refine l_off S rfl rfl rfl rfl bc19 rfl rfl ?_; clear S a; intro a S
            refine l_off S rfl rfl rfl rfl bc19 rfl rfl ?_; clear S a; intro a S
            refine l_pure S (p_pick_t rfl bc19 rfl) rfl rfl rfl ?_; clear S a; intro a S
            refine l_mv 1 S rfl ?_; clear S a; intro a S
            refine l_off S rfl rfl rfl rfl rfl rfl rfl ?_; clear S a; intro a S
            refine l_off S rfl rfl rfl rfl rfl rfl rfl ?_; clear S a; intro a S
            refine l_off S rfl rfl rfl rfl rfl rfl rfl ?_; clear S a; intro a S
            refine l_off S rfl rfl rfl rfl rfl rfl rfl ?_; clear S a; intro a S
            refine l_pure S (p_pick_t rfl rfl rfl) rfl rfl rfl ?_; clear S a; intro a S
            refine l_nil ?_
            refine e_then ?_
            refine c_cond (b := true) S rfl (fun _ => ?_) (fun h => by cases h)
            refine wp_ret ?_
            refine e_then_ret ?_
            refine e_then_ret ?_
            have eR : R = (E, nz, pz, gz, tz, false) := by rw [← hR]; simp only [sd5, bc19, cond_true, cond_false]
            clear hR; subst eR
            exact r_ret1 S rfl rfl ⟨rfl, H, hD, by dsimp only; omega, by dsimp only; omega⟩
           ·
            have c19 := bc19
            have c19 := of_decide_eq_false c19
            refine l_on S rfl rfl rfl rfl bc19 ?_
            refine l_pure S (p_move rfl) rfl rfl rfl ?_; clear S a; intro a S
            refine l_on S rfl rfl rfl rfl bc19 ?_
            refine l_pure S (p_move rfl) rfl rfl rfl ?_; clear S a; intro a S
            refine l_on S rfl rfl rfl rfl bc19 ?_
            refine l_pure S (p_index rfl rfl (fun w => ix_string Tryz.underlying9 (by omega) (by omega))) rfl rfl rfl ?_; clear S a; intro a S
            have := bt_rng s i
            refine l_on S rfl rfl rfl rfl bc19 ?_
            refine l_pure S (p_lss rfl rfl) rfl rfl rfl ?_; clear S a; intro a S
            refine l_pure S (p_pick_f rfl bc19 rfl) rfl rfl rfl ?_; clear S a; intro a S
            refine l_mv 1 S rfl ?_; clear S a; intro a S
            refine l_split (S.of 166 rfl) (fun bc24 => ?_) (fun bc24 => ?_)
            ·
             have c24 := bc24
             have c24 := of_decide_eq_true c24
             refine l_off S rfl rfl rfl rfl bc24 rfl rfl ?_; clear S a; intro a S
             refine l_off S rfl rfl rfl rfl bc24 rfl rfl ?_; clear S a; intro a S
             refine l_off S rfl rfl rfl rfl bc24 rfl rfl ?_; clear S a; intro a S
             refine l_off S rfl rfl rfl rfl bc24 rfl rfl ?_; clear S a; intro a S
             refine l_pure S (p_pick_t rfl bc24 rfl) rfl rfl rfl ?_; clear S a; intro a S
             refine l_nil ?_
             refine e_then ?_
             refine c_cond (b := true) S rfl (fun _ => ?_) (fun h => by cases h)
             refine wp_ret ?_
             refine e_then_ret ?_
             refine e_then_ret ?_
             have eR : R = (E, nz, pz, gz, tz, false) := by rw [← hR]; simp only [sd5, bc19, bc24, cond_true, cond_false]
             clear hR; subst eR
             exact r_ret1 S rfl rfl ⟨rfl, H, hD, by dsimp only; omega, by dsimp only; omega⟩
            ·
             have c24 := bc24
             have c24 := of_decide_eq_false c24
             refine l_on S rfl rfl rfl rfl bc24 ?_
             refine l_pure S (p_move rfl) rfl rfl rfl ?_; clear S a; intro a S
             refine l_on S rfl rfl rfl rfl bc24 ?_
             refine l_pure S (p_move rfl) rfl rfl rfl ?_; clear S a; intro a S
             refine l_on S rfl rfl rfl rfl bc24 ?_
             refine l_pure S (p_index rfl rfl (fun w => ix_string Tryz.underlying9 (by omega) (by omega))) rfl rfl rfl ?_; clear S a; intro a S
             have := bt_rng s i
             refine l_on S rfl rfl rfl rfl bc24 ?_
             refine l_pure S (p_gtr rfl rfl) rfl rfl rfl ?_; clear S a; intro a S
             refine l_pure S (p_pick_f rfl bc24 rfl) rfl rfl rfl ?_; clear S a; intro a S
             refine l_nil ?_
             refine e_then ?_
             refine c_cond S rfl (fun bc28 => ?_) (fun bc28 => ?_)
             ·
              have c28 := bc28
              have c28 := of_decide_eq_true c28
              refine wp_ret ?_
              refine e_then_ret ?_
              refine e_then_ret ?_
              have eR : R = (E, nz, pz, gz, tz, false) := by rw [← hR]; simp only [sd5, bc19, bc24, bc28, cond_true, cond_false]
              clear hR; subst eR
              exact r_ret1 S rfl rfl ⟨rfl, H, hD, by dsimp only; omega, by dsimp only; omega⟩
             ·
              have c28 := bc28
              have c28 := of_decide_eq_false c28
              refine wp_skip ?_
              refine e_then ?_
              refine wp_seq ?_
              refine c_region ?_
              refine l_mv 1 S rfl ?_; clear S a; intro a S
              refine l_nil ?_
              refine e_then ?_
              refine c_cut (fun a w => ∃ i : Int, ∃ es : Int, ∃ ee : Int, ∃ gz : Bool, ∃ E : Int → Int, ∃ nz : Int, ∃ pz : Int, ∃ tz : Bool, SL a 224 [] [(0, .pointer (some ⟨gd, 0, none⟩)), (1, .string s), (4, .bool false), (5, .int .i64 i), (8, .int .i64 es), (9, .int .i64 ee)] ∧ HH B wb w ((gd, .cells (decC E nz pz gz tz) 113 (0, 0)) :: L0) ∧ sd6 s i es ee gz E nz pz tz = R ∧ ((0 ≤ i ∧ i ≤ s.size) ∧ Dg E nz ∧ (0 ≤ nz ∧ nz ≤ 800) ∧ (-2000000 ≤ pz ∧ pz ≤ 2000000) ∧ (es = 1 ∨ es = -1) ∧ (0 ≤ ee ∧ ee ≤ 200000))) ?_ ?_
              ·
               clear S a H hR; rintro a w ⟨i, es, ee, gz, E, nz, pz, tz, S, H, hR, hinv⟩
               obtain ⟨hi, hD, hn, hp, hes, hee⟩ := hinv
               have hmb := mul_bd hee hes
               refine c_region ?_
               refine l_mv 2 S rfl ?_; clear S a; intro a S
               refine l_pure S (p_fieldAddr rfl (fun w => fa113_2 w _ _)) rfl rfl rfl ?_; clear S a; intro a S
               refine l_read S H (r_load rfl List.mem_cons_self (show _ = some (.int .i64 pz) from dec_dp) (fun w hc => ld1 ag3 hc)) rfl rfl rfl ?_; clear S a; intro a S
               refine l_mv 2 S rfl ?_; clear S a; intro a S
               refine l_pure S (p_mul (r := (ee * es)) rfl rfl (IntWalk.i64_in _ (by omega))) rfl rfl rfl ?_; clear S a; intro a S
               refine l_pure S (p_add (r := (pz + (ee * es))) rfl rfl (IntWalk.i64_in _ (by omega))) rfl rfl rfl ?_; clear S a; intro a S
               refine l_mv 1 S rfl ?_; clear S a; intro a S
               refine l_pure S (p_fieldAddr rfl (fun w => fa113_2 w _ _)) rfl rfl rfl ?_; clear S a; intro a S
               refine l_store S H rfl rfl rfl (Upd.cast (set_dp (v := (pz + (ee * es)))) .here) (by rw [dec_size]; omega) (fun w u hc hz => st1 sz3 rfl hc hz) rfl rfl ?_; clear S a H; intro w a H S
               refine l_nil ?_
               refine e_then ?_
               exact ⟨i, gz, E, nz, (pz + (ee * es)), tz, S.only ⟨rfl, rfl, rfl, rfl, trivial⟩, H, by rw [← hR]; simp only [sd6, cond_true, cond_false], ⟨by omega, hD, by omega, by omega⟩⟩
              ·
               refine wp_block ?_
               refine c_loop (σ := Nat × Int × Int × Int × Bool × (Int → Int) × Int × Int × Bool) (fun s_ a w => match s_ with | (k_, i, es, ee, gz, E, nz, pz, tz) => SL a 224 [] [(0, .pointer (some ⟨gd, 0, none⟩)), (1, .string s), (4, .bool false), (5, .int .i64 i), (8, .int .i64 es), (9, .int .i64 ee)] ∧ HH B wb w ((gd, .cells (decC E nz pz gz tz) 113 (0, 0)) :: L0) ∧ (sde s k_ i es ee gz E nz pz tz = R ∧ ((s.size : Int) - i).toNat < k_ ∧ ((0 ≤ i ∧ i ≤ s.size) ∧ Dg E nz ∧ (0 ≤ nz ∧ nz ≤ 800) ∧ (-2000000 ≤ pz ∧ pz ≤ 2000000) ∧ (es = 1 ∨ es = -1) ∧ (0 ≤ ee ∧ ee ≤ 200000)))) (fun s_ => s_.1) ((((s.size : Int) - i).toNat) + 1, i, es, 0, gz, E, nz, pz, tz) ⟨S.only ⟨rfl, rfl, rfl, rfl, rfl, rfl, trivial⟩, H, by rw [← hR]; simp only [sd5, bc19, bc24, bc28, cond_true, cond_false], by omega, ⟨by omega, hD, by omega, by omega, hes, by omega⟩⟩ ?_
               clear S a H hR; rintro ⟨fu, i, es, ee, gz, E, nz, pz, tz⟩ a w ⟨S, H, hR, hk, hinv⟩
               obtain ⟨fu, rfl⟩ : ∃ j, fu = j + 1 := ⟨fu - 1, by omega⟩
               obtain ⟨hi, hD, hn, hp, hes, hee⟩ := hinv
               refine wp_seq ?_
               refine wp_seq ?_
               refine c_region ?_
               refine l_mv 2 S rfl ?_; clear S a; intro a S
               refine l_pure S (p_lens Tryz.underlying9 rfl) rfl rfl rfl ?_; clear S a; intro a S
               refine l_pure S (p_lss rfl rfl) rfl rfl rfl ?_; clear S a; intro a S
               refine l_mv 1 S rfl ?_; clear S a; intro a S
               refine l_split (S.of 176 rfl) (fun bc30 => ?_) (fun bc30 => ?_)
               ·
                have c30 := bc30
                have c30 := of_decide_eq_true c30
                refine l_on S rfl rfl rfl rfl bc30 ?_
                refine l_pure S (p_move rfl) rfl rfl rfl ?_; clear S a; intro a S
                refine l_on S rfl rfl rfl rfl bc30 ?_
                refine l_pure S (p_move rfl) rfl rfl rfl ?_; clear S a; intro a S
                refine l_on S rfl rfl rfl rfl bc30 ?_
                refine l_pure S (p_index rfl rfl (fun w => ix_string Tryz.underlying9 (by omega) (by omega))) rfl rfl rfl ?_; clear S a; intro a S
                have := bt_rng s i
                refine l_on S rfl rfl rfl rfl bc30 ?_
                refine l_pure S (p_leq rfl rfl) rfl rfl rfl ?_; clear S a; intro a S
                refine l_on S rfl rfl rfl rfl bc30 ?_
                refine l_pure S (p_move rfl) rfl rfl rfl ?_; clear S a; intro a S
                refine l_split (S.of 181 rfl) (fun bc32 => ?_) (fun bc32 => ?_)
                ·
                 have c32 := bc32
                 have c32 := of_decide_eq_true c32
                 refine l_on S rfl rfl rfl rfl bc32 ?_
                 refine l_pure S (p_move rfl) rfl rfl rfl ?_; clear S a; intro a S
                 refine l_on S rfl rfl rfl rfl bc32 ?_
                 refine l_pure S (p_move rfl) rfl rfl rfl ?_; clear S a; intro a S
                 refine l_on S rfl rfl rfl rfl bc32 ?_
                 refine l_pure S (p_index rfl rfl (fun w => ix_string Tryz.underlying9 (by omega) (by omega))) rfl rfl rfl ?_; clear S a; intro a S
                 have := bt_rng s i
                 refine l_on S rfl rfl rfl rfl bc32 ?_
                 refine l_pure S (p_leq rfl rfl) rfl rfl rfl ?_; clear S a; intro a S
                 refine l_on S rfl rfl rfl rfl bc30 ?_
                 refine l_pure S (p_pick_t rfl bc32 rfl) rfl rfl rfl ?_; clear S a; intro a S
                 refine l_on S rfl rfl rfl rfl bc30 ?_
                 refine l_pure S (p_move rfl) rfl rfl rfl ?_; clear S a; intro a S
                 refine l_split (S.of 187 rfl) (fun bc34 => ?_) (fun bc34 => ?_)
                 ·
                  have c34 := bc34
                  have c34 := of_decide_eq_true c34
                  refine l_off S rfl rfl rfl rfl bc34 rfl rfl ?_; clear S a; intro a S
                  refine l_off S rfl rfl rfl rfl bc34 rfl rfl ?_; clear S a; intro a S
                  refine l_off S rfl rfl rfl rfl bc34 rfl rfl ?_; clear S a; intro a S
                  refine l_off S rfl rfl rfl rfl bc34 rfl rfl ?_; clear S a; intro a S
                  refine l_on S rfl rfl rfl rfl bc30 ?_
                  refine l_pure S (p_pick_t rfl bc34 rfl) rfl rfl rfl ?_; clear S a; intro a S
                  refine l_pure S (p_pick_t rfl bc30 rfl) rfl rfl rfl ?_; clear S a; intro a S
                  refine l_nil ?_
                  refine e_then ?_
                  refine c_cond (b := true) S rfl (fun _ => ?_) (fun h => by cases h)
                  refine wp_skip ?_
                  refine e_then ?_
                  refine wp_seq ?_
                  refine wp_block ?_
                  refine wp_seq ?_
                  refine wp_seq ?_
                  refine c_region ?_
                  refine l_mv 2 S rfl ?_; clear S a; intro a S
                  refine l_pure S (p_index rfl rfl (fun w => ix_string Tryz.underlying9 (by omega) (by omega))) rfl rfl rfl ?_; clear S a; intro a S
                  have := bt_rng s i
                  refine l_pure S (p_eql rfl rfl) rfl rfl rfl ?_; clear S a; intro a S
                  refine l_nil ?_
                  refine e_then ?_
                  refine c_cond S rfl (fun bc38 => ?_) (fun bc38 => ?_)
                  ·
                   have c38 := bc38
                   have c38 := eq_of_beq c38
                   refine wp_exit ?_
                   refine e_then_exit ?_
                   refine e_in_exit ?_
                   refine e_then ?_
                   refine c_region ?_
                   refine l_mv 1 S rfl ?_; clear S a; intro a S
                   refine l_pure S (p_add (r := (i + 1)) rfl rfl (IntWalk.i64_in _ (by omega))) rfl rfl rfl ?_; clear S a; intro a S
                   refine l_mv 1 S rfl ?_; clear S a; intro a S
                   refine l_nil ?_
                   refine e_then ?_
                   exact ⟨(fu, (i + 1), es, ee, gz, E, nz, pz, tz), ⟨S.only ⟨rfl, rfl, rfl, rfl, rfl, rfl, trivial⟩, H, by rw [← hR]; simp only [sde, bc30, bc32, bc34, bc38, cond_true, cond_false], by omega, ⟨by omega, hD, by omega, by omega, hes, by omega⟩⟩, Nat.lt_succ_self fu⟩
                  ·
                   have c38 := bc38
                   have c38 := ne_of_beq_false c38
                   refine wp_skip ?_
                   refine e_then ?_
                   refine wp_seq ?_
                   refine c_region ?_
                   refine l_mv 1 S rfl ?_; clear S a; intro a S
                   refine l_pure S (p_lss rfl rfl) rfl rfl rfl ?_; clear S a; intro a S
                   refine l_nil ?_
                   refine e_then ?_
                   refine c_cond S rfl (fun bc40 => ?_) (fun bc40 => ?_)
                   ·
                    have c40 := bc40
                    have c40 := of_decide_eq_true c40
                    refine c_region ?_
                    refine l_mv 1 S rfl ?_; clear S a; intro a S
                    refine l_pure S (p_mul (r := (ee * 10)) rfl rfl (IntWalk.i64_in _ (by omega))) rfl rfl rfl ?_; clear S a; intro a S
                    refine l_mv 2 S rfl ?_; clear S a; intro a S
                    refine l_pure S (p_index rfl rfl (fun w => ix_string Tryz.underlying9 (by omega) (by omega))) rfl rfl rfl ?_; clear S a; intro a S
                    have := bt_rng s i
                    refine l_pure S (p_conv rfl (fun w => cv_int (Tryz.underlying5) (Tryz.underlying3) (r := (HHW.bt s i)) (IntWalk.i64_in _ (by omega)))) rfl rfl rfl ?_; clear S a; intro a S
                    refine l_pure S (p_add (r := ((ee * 10) + (HHW.bt s i))) rfl rfl (IntWalk.i64_in _ (by omega))) rfl rfl rfl ?_; clear S a; intro a S
                    refine l_pure S (p_sub (r := (((ee * 10) + (HHW.bt s i)) - 48)) rfl rfl (IntWalk.i64_in _ (by omega))) rfl rfl rfl ?_; clear S a; intro a S
                    refine l_mv 1 S rfl ?_; clear S a; intro a S
                    refine l_nil ?_
                    refine e_in 6 ?_
                    refine e_then ?_
                    refine c_region ?_
                    refine l_mv 1 S rfl ?_; clear S a; intro a S
                    refine l_pure S (p_add (r := (i + 1)) rfl rfl (IntWalk.i64_in _ (by omega))) rfl rfl rfl ?_; clear S a; intro a S
                    refine l_mv 1 S rfl ?_; clear S a; intro a S
                    refine l_nil ?_
                    refine e_then ?_
                    exact ⟨(fu, (i + 1), es, (((ee * 10) + (HHW.bt s i)) - 48), gz, E, nz, pz, tz), ⟨S.only ⟨rfl, rfl, rfl, rfl, rfl, rfl, trivial⟩, H, by rw [← hR]; simp only [sde, bc30, bc32, bc34, bc38, bc40, cond_true, cond_false], by omega, ⟨by omega, hD, by omega, by omega, hes, by omega⟩⟩, Nat.lt_succ_self fu⟩
                   ·
                    have c40 := bc40
                    have c40 := of_decide_eq_false c40
                    refine wp_skip ?_
                    refine e_in 6 ?_
                    refine e_then ?_
                    refine c_region ?_
                    refine l_mv 1 S rfl ?_; clear S a; intro a S
                    refine l_pure S (p_add (r := (i + 1)) rfl rfl (IntWalk.i64_in _ (by omega))) rfl rfl rfl ?_; clear S a; intro a S
                    refine l_mv 1 S rfl ?_; clear S a; intro a S
                    refine l_nil ?_
                    refine e_then ?_
                    exact ⟨(fu, (i + 1), es, ee, gz, E, nz, pz, tz), ⟨S.only ⟨rfl, rfl, rfl, rfl, rfl, rfl, trivial⟩, H, by rw [← hR]; simp only [sde, bc30, bc32, bc34, bc38, bc40, cond_true, cond_false], by omega, ⟨by omega, hD, by omega, by omega, hes, by omega⟩⟩, Nat.lt_succ_self fu⟩
                 ·
                  have c34 := bc34
                  have c34 := of_decide_eq_false c34
                  refine l_on S rfl rfl rfl rfl bc34 ?_
                  refine l_pure S (p_move rfl) rfl rfl rfl ?_; clear S a; intro a S
                  refine l_on S rfl rfl rfl rfl bc34 ?_
                  refine l_pure S (p_move rfl) rfl rfl rfl ?_; clear S a; intro a S
                  refine l_on S rfl rfl rfl rfl bc34 ?_
                  refine l_pure S (p_index rfl rfl (fun w => ix_string Tryz.underlying9 (by omega) (by omega))) rfl rfl rfl ?_; clear S a; intro a S
                  have := bt_rng s i
                  refine l_on S rfl rfl rfl rfl bc34 ?_
                  refine l_pure S (p_eql rfl rfl) rfl rfl rfl ?_; clear S a; intro a S
                  refine l_on S rfl rfl rfl rfl bc30 ?_
                  refine l_pure S (p_pick_f rfl bc34 rfl) rfl rfl rfl ?_; clear S a; intro a S
                  refine l_pure S (p_pick_t rfl bc30 rfl) rfl rfl rfl ?_; clear S a; intro a S
                  refine l_nil ?_
                  refine e_then ?_
                  refine c_cond S rfl (fun bc42 => ?_) (fun bc42 => ?_)
                  ·
                   have c42 := bc42
                   have c42 := eq_of_beq c42
                   refine wp_skip ?_
                   refine e_then ?_
                   refine wp_seq ?_
                   refine wp_block ?_
                   refine wp_seq ?_
                   refine wp_seq ?_
                   refine c_region ?_
                   refine l_mv 2 S rfl ?_; clear S a; intro a S
                   refine l_pure S (p_index rfl rfl (fun w => ix_string Tryz.underlying9 (by omega) (by omega))) rfl rfl rfl ?_; clear S a; intro a S
                   have := bt_rng s i
                   refine l_pure S (p_eql rfl rfl) rfl rfl rfl ?_; clear S a; intro a S
                   refine l_nil ?_
                   refine e_then ?_
                   refine c_cond S rfl (fun _ => ?_) (fun h => by rw [bc42] at h; cases h)
                   refine wp_exit ?_
                   refine e_then_exit ?_
                   refine e_in_exit ?_
                   refine e_then ?_
                   refine c_region ?_
                   refine l_mv 1 S rfl ?_; clear S a; intro a S
                   refine l_pure S (p_add (r := (i + 1)) rfl rfl (IntWalk.i64_in _ (by omega))) rfl rfl rfl ?_; clear S a; intro a S
                   refine l_mv 1 S rfl ?_; clear S a; intro a S
                   refine l_nil ?_
                   refine e_then ?_
                   exact ⟨(fu, (i + 1), es, ee, gz, E, nz, pz, tz), ⟨S.only ⟨rfl, rfl, rfl, rfl, rfl, rfl, trivial⟩, H, by rw [← hR]; simp only [sde, bc30, bc32, bc34, bc42, cond_true, cond_false], by omega, ⟨by omega, hD, by omega, by omega, hes, by omega⟩⟩, Nat.lt_succ_self fu⟩
                  ·
                   have c42 := bc42
                   have c42 := ne_of_beq_false c42
                   refine wp_exit ?_
                   refine e_then_exit ?_
                   refine e_then_exit ?_
                   refine e_in_exit ?_
                   refine e_then ?_
                   exact ⟨i, es, ee, gz, E, nz, pz, tz, S.only ⟨rfl, rfl, rfl, rfl, rfl, rfl, trivial⟩, H, by rw [← hR]; simp only [sde, bc30, bc32, bc34, bc42, cond_true, cond_false], ⟨by omega, hD, by omega, by omega, hes, by omega⟩⟩
                ·
                 have c32 := bc32
                 have c32 := of_decide_eq_false c32
                 refine l_off S rfl rfl rfl rfl bc32 rfl rfl ?_; clear S a; intro a S
                 refine l_off S rfl rfl rfl rfl bc32 rfl rfl ?_; clear S a; intro a S
                 refine l_off S rfl rfl rfl rfl bc32 rfl rfl ?_; clear S a; intro a S
                 refine l_off S rfl rfl rfl rfl bc32 rfl rfl ?_; clear S a; intro a S
                 refine l_on S rfl rfl rfl rfl bc30 ?_
                 refine l_pure S (p_pick_f rfl bc32 rfl) rfl rfl rfl ?_; clear S a; intro a S
                 refine l_on S rfl rfl rfl rfl bc30 ?_
                 refine l_pure S (p_move rfl) rfl rfl rfl ?_; clear S a; intro a S
                 refine l_on S rfl rfl rfl rfl rfl ?_
                 refine l_pure S (p_move rfl) rfl rfl rfl ?_; clear S a; intro a S
                 refine l_on S rfl rfl rfl rfl rfl ?_
                 refine l_pure S (p_move rfl) rfl rfl rfl ?_; clear S a; intro a S
                 refine l_on S rfl rfl rfl rfl rfl ?_
                 refine l_pure S (p_index rfl rfl (fun w => ix_string Tryz.underlying9 (by omega) (by omega))) rfl rfl rfl ?_; clear S a; intro a S
                 have := bt_rng s i
                 refine l_on S rfl rfl rfl rfl rfl ?_
                 refine l_pure S (p_eql rfl rfl) rfl rfl rfl ?_; clear S a; intro a S
                 refine l_on S rfl rfl rfl rfl bc30 ?_
                 refine l_pure S (p_pick_f rfl rfl rfl) rfl rfl rfl ?_; clear S a; intro a S
                 refine l_pure S (p_pick_t rfl bc30 rfl) rfl rfl rfl ?_; clear S a; intro a S
                 refine l_nil ?_
                 refine e_then ?_
                 refine c_cond S rfl (fun bc47 => ?_) (fun bc47 => ?_)
                 ·
                  have c47 := bc47
                  have c47 := eq_of_beq c47
                  refine wp_skip ?_
                  refine e_then ?_
                  refine wp_seq ?_
                  refine wp_block ?_
                  refine wp_seq ?_
                  refine wp_seq ?_
                  refine c_region ?_
                  refine l_mv 2 S rfl ?_; clear S a; intro a S
                  refine l_pure S (p_index rfl rfl (fun w => ix_string Tryz.underlying9 (by omega) (by omega))) rfl rfl rfl ?_; clear S a; intro a S
                  have := bt_rng s i
                  refine l_pure S (p_eql rfl rfl) rfl rfl rfl ?_; clear S a; intro a S
                  refine l_nil ?_
                  refine e_then ?_
                  refine c_cond S rfl (fun _ => ?_) (fun h => by rw [bc47] at h; cases h)
                  refine wp_exit ?_
                  refine e_then_exit ?_
                  refine e_in_exit ?_
                  refine e_then ?_
                  refine c_region ?_
                  refine l_mv 1 S rfl ?_; clear S a; intro a S
                  refine l_pure S (p_add (r := (i + 1)) rfl rfl (IntWalk.i64_in _ (by omega))) rfl rfl rfl ?_; clear S a; intro a S
                  refine l_mv 1 S rfl ?_; clear S a; intro a S
                  refine l_nil ?_
                  refine e_then ?_
                  exact ⟨(fu, (i + 1), es, ee, gz, E, nz, pz, tz), ⟨S.only ⟨rfl, rfl, rfl, rfl, rfl, rfl, trivial⟩, H, by rw [← hR]; simp only [sde, bc30, bc32, bc47, cond_true, cond_false], by omega, ⟨by omega, hD, by omega, by omega, hes, by omega⟩⟩, Nat.lt_succ_self fu⟩
                 ·
                  have c47 := bc47
                  have c47 := ne_of_beq_false c47
                  refine wp_exit ?_
                  refine e_then_exit ?_
                  refine e_then_exit ?_
                  refine e_in_exit ?_
                  refine e_then ?_
                  exact ⟨i, es, ee, gz, E, nz, pz, tz, S.only ⟨rfl, rfl, rfl, rfl, rfl, rfl, trivial⟩, H, by rw [← hR]; simp only [sde, bc30, bc32, bc47, cond_true, cond_false], ⟨by omega, hD, by omega, by omega, hes, by omega⟩⟩
               ·
                have c30 := bc30
                have c30 := of_decide_eq_false c30
                refine l_off S rfl rfl rfl rfl bc30 rfl rfl ?_; clear S a; intro a S
                refine l_off S rfl rfl rfl rfl bc30 rfl rfl ?_; clear S a; intro a S
                refine l_off S rfl rfl rfl rfl bc30 rfl rfl ?_; clear S a; intro a S
                refine l_off S rfl rfl rfl rfl bc30 rfl rfl ?_; clear S a; intro a S
                refine l_off S rfl rfl rfl rfl bc30 rfl rfl ?_; clear S a; intro a S
                refine l_offU S rfl rfl rfl rfl rfl rfl ?_; clear S a; intro a S
                refine l_offU S rfl rfl rfl rfl rfl rfl ?_; clear S a; intro a S
                refine l_offU S rfl rfl rfl rfl rfl rfl ?_; clear S a; intro a S
                refine l_offU S rfl rfl rfl rfl rfl rfl ?_; clear S a; intro a S
                refine l_off S rfl rfl rfl rfl bc30 rfl rfl ?_; clear S a; intro a S
                refine l_off S rfl rfl rfl rfl bc30 rfl rfl ?_; clear S a; intro a S
                refine l_offU S rfl rfl rfl rfl rfl rfl ?_; clear S a; intro a S
                refine l_offU S rfl rfl rfl rfl rfl rfl ?_; clear S a; intro a S
                refine l_offU S rfl rfl rfl rfl rfl rfl ?_; clear S a; intro a S
                refine l_offU S rfl rfl rfl rfl rfl rfl ?_; clear S a; intro a S
                refine l_off S rfl rfl rfl rfl bc30 rfl rfl ?_; clear S a; intro a S
                refine l_pure S (p_pick_f rfl bc30 rfl) rfl rfl rfl ?_; clear S a; intro a S
                refine l_nil ?_
                refine e_then ?_
                refine c_cond (b := false) S rfl (fun h => by cases h) (fun _ => ?_)
                refine wp_exit ?_
                refine e_then_exit ?_
                refine e_then_exit ?_
                refine e_in_exit ?_
                refine e_then ?_
                exact ⟨i, es, ee, gz, E, nz, pz, tz, S.only ⟨rfl, rfl, rfl, rfl, rfl, rfl, trivial⟩, H, by rw [← hR]; simp only [sde, bc30, cond_true, cond_false], ⟨by omega, hD, by omega, by omega, hes, by omega⟩⟩
          ·
           refine wp_seq ?_
           refine c_region ?_
           refine l_mv 2 S rfl ?_; clear S a; intro a S
           refine l_pure S (p_index rfl rfl (fun w => ix_string Tryz.underlying9 (by omega) (by omega))) rfl rfl rfl ?_; clear S a; intro a S
           have := bt_rng s (i + 1)
           refine l_nil ?_
           refine e_then ?_
           refine wp_block ?_
           refine wp_seq ?_
           refine c_region ?_
           refine l_pure S (p_eql rfl rfl) rfl rfl rfl ?_; clear S a; intro a S
           refine l_mv 1 S rfl ?_; clear S a; intro a S
           refine l_nil ?_
           refine e_then ?_
           refine c_cond S rfl (fun bc53 => ?_) (fun bc53 => ?_)
           ·
            have c53 := bc53
            have c53 := eq_of_beq c53
            refine c_region ?_
            refine l_mv 1 S rfl ?_; clear S a; intro a S
            refine l_pure S (p_add (r := ((i + 1) + 1)) rfl rfl (IntWalk.i64_in _ (by omega))) rfl rfl rfl ?_; clear S a; intro a S
            refine l_mv 1 S rfl ?_; clear S a; intro a S
            refine l_nil ?_
            refine e_in 4 ?_
            refine e_then ?_
            exact ⟨((i + 1) + 1), 1, gz, E, nz, pz, tz, S.only ⟨rfl, rfl, rfl, rfl, rfl, trivial⟩, H, by rw [← hR]; simp only [sd3, bc13, bc15, bc17, bc53, cond_true, cond_false], ⟨by omega, hD, by omega, by omega, by omega⟩⟩
           ·
            have c53 := bc53
            have c53 := ne_of_beq_false c53
            refine wp_seq ?_
            refine c_region ?_
            refine l_pure S (p_eql rfl rfl) rfl rfl rfl ?_; clear S a; intro a S
            refine l_mv 1 S rfl ?_; clear S a; intro a S
            refine l_nil ?_
            refine e_then ?_
            refine c_cond S rfl (fun bc55 => ?_) (fun bc55 => ?_)
            ·
             have c55 := bc55
             have c55 := eq_of_beq c55
             refine wp_seq ?_
             refine c_region ?_
             refine l_mv 1 S rfl ?_; clear S a; intro a S
             refine l_pure S (p_add (r := ((i + 1) + 1)) rfl rfl (IntWalk.i64_in _ (by omega))) rfl rfl rfl ?_; clear S a; intro a S
             refine l_mv 1 S rfl ?_; clear S a; intro a S
             refine l_nil ?_
             refine e_then ?_
             refine c_region ?_
             refine l_mv 1 S rfl ?_; clear S a; intro a S
             refine l_nil ?_
             refine e_in 4 ?_
             refine e_then ?_
             exact ⟨((i + 1) + 1), (-1), gz, E, nz, pz, tz, S.only ⟨rfl, rfl, rfl, rfl, rfl, trivial⟩, H, by rw [← hR]; simp only [sd3, bc13, bc15, bc17, bc53, bc55, cond_true, cond_false], ⟨by omega, hD, by omega, by omega, by omega⟩⟩
            ·
             have c55 := bc55
             have c55 := ne_of_beq_false c55
             refine wp_skip ?_
             refine e_in 4 ?_
             refine e_then ?_
             exact ⟨(i + 1), 1, gz, E, nz, pz, tz, S.only ⟨rfl, rfl, rfl, rfl, rfl, trivial⟩, H, by rw [← hR]; simp only [sd3, bc13, bc15, bc17, bc53, bc55, cond_true, cond_false], ⟨by omega, hD, by omega, by omega, by omega⟩⟩
        ·
         have c15 := bc15
         have c15 := ne_of_beq_false c15
         refine wp_skip ?_
         refine e_then ?_
         exact ⟨i, gz, E, nz, pz, tz, S.only ⟨rfl, rfl, rfl, rfl, trivial⟩, H, by rw [← hR]; simp only [sd3, bc13, bc15, cond_true, cond_false], ⟨by omega, hD, by omega, by omega⟩⟩
       ·
        have c13 := bc13
        have c13 := of_decide_eq_false c13
        refine l_off S rfl rfl rfl rfl bc13 rfl rfl ?_; clear S a; intro a S
        refine l_off S rfl rfl rfl rfl bc13 rfl rfl ?_; clear S a; intro a S
        refine l_off S rfl rfl rfl rfl bc13 rfl rfl ?_; clear S a; intro a S
        refine l_off S rfl rfl rfl rfl bc13 rfl rfl ?_; clear S a; intro a S
        refine l_off S rfl rfl rfl rfl bc13 rfl rfl ?_; clear S a; intro a S
        refine l_pure S (p_pick_f rfl bc13 rfl) rfl rfl rfl ?_; clear S a; intro a S
        refine l_nil ?_
        refine e_then ?_
        refine c_cond (b := false) S rfl (fun h => by cases h) (fun _ => ?_)
        refine wp_skip ?_
        refine e_then ?_
        exact ⟨i, gz, E, nz, pz, tz, S.only ⟨rfl, rfl, rfl, rfl, trivial⟩, H, by rw [← hR]; simp only [sd3, bc13, cond_true, cond_false], ⟨by omega, hD, by omega, by omega⟩⟩
     ·
      refine wp_seq ?_
      refine c_region ?_
      refine l_mv 1 S rfl ?_; clear S a; intro a S
      refine l_pure S (p_not rfl) rfl rfl rfl ?_; clear S a; intro a S
      refine l_nil ?_
      refine e_then ?_
      refine c_cond S rfl (fun bc60 => ?_) (fun bc60 => ?_)
      ·
       have c60 := bc60
       replace c60 := not_eq_true_ c60
       refine c_region ?_
       refine l_mv 3 S rfl ?_; clear S a; intro a S
       refine l_pure S (p_fieldAddr rfl (fun w => fa113_1 w _ _)) rfl rfl rfl ?_; clear S a; intro a S
       refine l_read S H (r_load rfl List.mem_cons_self (show _ = some (.int .i64 nz) from dec_nd) (fun w hc => ld1 ag3 hc)) rfl rfl rfl ?_; clear S a; intro a S
       refine l_mv 1 S rfl ?_; clear S a; intro a S
       refine l_pure S (p_fieldAddr rfl (fun w => fa113_2 w _ _)) rfl rfl rfl ?_; clear S a; intro a S
       refine l_store S H rfl rfl rfl (Upd.cast (set_dp (v := nz)) .here) (by rw [dec_size]; omega) (fun w u hc hz => st1 sz3 rfl hc hz) rfl rfl ?_; clear S a H; intro w a H S
       refine l_nil ?_
       refine e_then ?_
       exact ⟨i, gz, E, nz, nz, tz, S.only ⟨rfl, rfl, rfl, rfl, trivial⟩, H, by rw [← hR]; simp only [sd2, bc8, bc60, cond_true, cond_false], ⟨by omega, hD, by omega, by omega⟩⟩
      ·
       have c60 := bc60
       replace c60 := not_eq_false_ c60
       refine wp_skip ?_
       refine e_then ?_
       exact ⟨i, gz, E, nz, pz, tz, S.only ⟨rfl, rfl, rfl, rfl, trivial⟩, H, by rw [← hR]; simp only [sd2, bc8, bc60, cond_true, cond_false], ⟨by omega, hD, by omega, by omega⟩⟩
   ·
    refine wp_block ?_
    refine c_loop (σ := Nat × Int × Bool × Bool × Bool × (Int → Int) × Int × Int × Bool) (fun s_ a w => match s_ with | (k_, i, sd, sg, gz, E, nz, pz, tz) => SL a 224 [] [(0, .pointer (some ⟨gd, 0, none⟩)), (1, .string s), (4, .bool false), (5, .int .i64 i), (6, .bool sd), (7, .bool sg)] ∧ HH B wb w ((gd, .cells (decC E nz pz gz tz) 113 (0, 0)) :: L0) ∧ (sdl s k_ i sd sg gz E nz pz tz = R ∧ ((s.size : Int) - i).toNat < k_ ∧ ((0 ≤ i ∧ i ≤ s.size) ∧ Dg E nz ∧ (0 ≤ nz ∧ nz ≤ 800) ∧ (-i ≤ pz ∧ pz ≤ i) ∧ nz ≤ i))) (fun s_ => s_.1) ((((s.size : Int) - i).toNat) + 1, i, false, false, gz, Z0, 0, 0, false) ⟨S.only ⟨rfl, rfl, rfl, rfl, rfl, rfl, trivial⟩, H, by rw [← hR]; simp only [sd1, cond_true, cond_false], by omega, ⟨by omega, Dg.zero _, by omega, by omega, by omega⟩⟩ ?_
    clear S a H hR; rintro ⟨fu, i, sd, sg, gz, E, nz, pz, tz⟩ a w ⟨S, H, hR, hk, hinv⟩
    obtain ⟨fu, rfl⟩ : ∃ j, fu = j + 1 := ⟨fu - 1, by omega⟩
    obtain ⟨hi, hD, hn, hp, hni⟩ := hinv
    refine wp_seq ?_
    refine wp_seq ?_
    refine c_region ?_
    refine l_mv 2 S rfl ?_; clear S a; intro a S
    refine l_pure S (p_lens Tryz.underlying9 rfl) rfl rfl rfl ?_; clear S a; intro a S
    refine l_pure S (p_lss rfl rfl) rfl rfl rfl ?_; clear S a; intro a S
    refine l_nil ?_
    refine e_then ?_
    refine c_cond S rfl (fun bc62 => ?_) (fun bc62 => ?_)
    ·
     have c62 := bc62
     have c62 := of_decide_eq_true c62
     refine wp_skip ?_
     refine e_then ?_
     refine wp_seq ?_
     refine wp_block ?_
     refine wp_seq ?_
     refine wp_block ?_
     refine wp_seq ?_
     refine c_region ?_
     refine l_mv 2 S rfl ?_; clear S a; intro a S
     refine l_pure S (p_index rfl rfl (fun w => ix_string Tryz.underlying9 (by omega) (by omega))) rfl rfl rfl ?_; clear S a; intro a S
     have := bt_rng s i
     refine l_pure S (p_eql rfl rfl) rfl rfl rfl ?_; clear S a; intro a S
     refine l_mv 1 S rfl ?_; clear S a; intro a S
     refine l_nil ?_
     refine e_then ?_
     refine c_cond S rfl (fun bc64 => ?_) (fun bc64 => ?_)
     ·
      have c64 := bc64
      have c64 := eq_of_beq c64
      refine wp_exit ?_
      refine e_in_other rfl ?_
      refine e_then_exit ?_
      refine e_in_exit ?_
      refine e_then ?_
      refine c_region ?_
      refine l_mv 1 S rfl ?_; clear S a; intro a S
      refine l_pure S (p_add (r := (i + 1)) rfl rfl (IntWalk.i64_in _ (by omega))) rfl rfl rfl ?_; clear S a; intro a S
      refine l_mv 1 S rfl ?_; clear S a; intro a S
      refine l_nil ?_
      refine e_then ?_
      exact ⟨(fu, (i + 1), sd, sg, gz, E, nz, pz, tz), ⟨S.only ⟨rfl, rfl, rfl, rfl, rfl, rfl, trivial⟩, H, by rw [← hR]; simp only [sdl, bc62, bc64, cond_true, cond_false], by omega, ⟨by omega, hD, by omega, by omega, by omega⟩⟩, Nat.lt_succ_self fu⟩
     ·
      have c64 := bc64
      have c64 := ne_of_beq_false c64
      refine wp_seq ?_
      refine c_region ?_
      refine l_mv 2 S rfl ?_; clear S a; intro a S
      refine l_pure S (p_index rfl rfl (fun w => ix_string Tryz.underlying9 (by omega) (by omega))) rfl rfl rfl ?_; clear S a; intro a S
      have := bt_rng s i
      refine l_pure S (p_eql rfl rfl) rfl rfl rfl ?_; clear S a; intro a S
      refine l_mv 1 S rfl ?_; clear S a; intro a S
      refine l_nil ?_
      refine e_then ?_
      refine c_cond S rfl (fun bc66 => ?_) (fun bc66 => ?_)
      ·
       have c66 := bc66
       have c66 := eq_of_beq c66
       refine wp_seq ?_
       refine wp_seq ?_
       refine c_region ?_
       refine l_mv 1 S rfl ?_; clear S a; intro a S
       refine l_nil ?_
       refine e_then ?_
       refine c_cond S rfl (fun bc68 => ?_) (fun bc68 => ?_)
       ·
        have c68 := bc68
        refine wp_ret ?_
        refine e_then_ret ?_
        refine e_in_ret ?_
        refine e_then_ret ?_
        refine e_in_ret ?_
        refine e_then_ret ?_
        refine e_then_ret ?_
        refine e_in_ret ?_
        refine e_then_ret ?_
        have eR : R = (E, nz, pz, gz, tz, false) := by rw [← hR]; simp only [sdl, bc62, bc64, bc66, bc68, cond_true, cond_false]
        clear hR; subst eR
        exact r_ret1 S rfl rfl ⟨rfl, H, hD, by dsimp only; omega, by dsimp only; omega⟩
       ·
        have c68 := bc68
        refine wp_skip ?_
        refine e_then ?_
        refine wp_seq ?_
        refine c_region ?_
        refine l_mv 1 S rfl ?_; clear S a; intro a S
        refine l_nil ?_
        refine e_then ?_
        refine wp_seq ?_
        refine c_region ?_
        refine l_mv 3 S rfl ?_; clear S a; intro a S
        refine l_pure S (p_fieldAddr rfl (fun w => fa113_1 w _ _)) rfl rfl rfl ?_; clear S a; intro a S
        refine l_read S H (r_load rfl List.mem_cons_self (show _ = some (.int .i64 nz) from dec_nd) (fun w hc => ld1 ag3 hc)) rfl rfl rfl ?_; clear S a; intro a S
        refine l_mv 1 S rfl ?_; clear S a; intro a S
        refine l_pure S (p_fieldAddr rfl (fun w => fa113_2 w _ _)) rfl rfl rfl ?_; clear S a; intro a S
        refine l_store S H rfl rfl rfl (Upd.cast (set_dp (v := nz)) .here) (by rw [dec_size]; omega) (fun w u hc hz => st1 sz3 rfl hc hz) rfl rfl ?_; clear S a H; intro w a H S
        refine l_nil ?_
        refine e_then ?_
        refine wp_exit ?_
        refine e_in_other rfl ?_
        refine e_then_exit ?_
        refine e_in_exit ?_
        refine e_then ?_
        refine c_region ?_
        refine l_mv 1 S rfl ?_; clear S a; intro a S
        refine l_pure S (p_add (r := (i + 1)) rfl rfl (IntWalk.i64_in _ (by omega))) rfl rfl rfl ?_; clear S a; intro a S
        refine l_mv 1 S rfl ?_; clear S a; intro a S
        refine l_nil ?_
        refine e_then ?_
        exact ⟨(fu, (i + 1), true, sg, gz, E, nz, nz, tz), ⟨S.only ⟨rfl, rfl, rfl, rfl, rfl, rfl, trivial⟩, H, by rw [← hR]; simp only [sdl, bc62, bc64, bc66, bc68, cond_true, cond_false], by omega, ⟨by omega, hD, by omega, by omega, by omega⟩⟩, Nat.lt_succ_self fu⟩
      ·
       have c66 := bc66
       have c66 := ne_of_beq_false c66
       refine wp_seq ?_
       refine c_region ?_
       refine l_mv 2 S rfl ?_; clear S a; intro a S
       refine l_pure S (p_index rfl rfl (fun w => ix_string Tryz.underlying9 (by omega) (by omega))) rfl rfl rfl ?_; clear S a; intro a S
       have := bt_rng s i
       refine l_pure S (p_leq rfl rfl) rfl rfl rfl ?_; clear S a; intro a S
       refine l_mv 1 S rfl ?_; clear S a; intro a S
       refine l_split (S.of 63 rfl) (fun bc71 => ?_) (fun bc71 => ?_)
       ·
        have c71 := bc71
        have c71 := of_decide_eq_true c71
        refine l_on S rfl rfl rfl rfl bc71 ?_
        refine l_pure S (p_move rfl) rfl rfl rfl ?_; clear S a; intro a S
        refine l_on S rfl rfl rfl rfl bc71 ?_
        refine l_pure S (p_move rfl) rfl rfl rfl ?_; clear S a; intro a S
        refine l_on S rfl rfl rfl rfl bc71 ?_
        refine l_pure S (p_index rfl rfl (fun w => ix_string Tryz.underlying9 (by omega) (by omega))) rfl rfl rfl ?_; clear S a; intro a S
        have := bt_rng s i
        refine l_on S rfl rfl rfl rfl bc71 ?_
        refine l_pure S (p_leq rfl rfl) rfl rfl rfl ?_; clear S a; intro a S
        refine l_pure S (p_pick_t rfl bc71 rfl) rfl rfl rfl ?_; clear S a; intro a S
        refine l_mv 1 S rfl ?_; clear S a; intro a S
        refine l_nil ?_
        refine e_then ?_
        refine c_cond S rfl (fun bc73 => ?_) (fun bc73 => ?_)
        ·
         have c73 := bc73
         have c73 := of_decide_eq_true c73
         refine wp_seq ?_
         refine c_region ?_
         refine l_mv 1 S rfl ?_; clear S a; intro a S
         refine l_nil ?_
         refine e_then ?_
         refine wp_seq ?_
         refine wp_seq ?_
         refine c_region ?_
         refine l_mv 2 S rfl ?_; clear S a; intro a S
         refine l_pure S (p_index rfl rfl (fun w => ix_string Tryz.underlying9 (by omega) (by omega))) rfl rfl rfl ?_; clear S a; intro a S
         have := bt_rng s i
         refine l_pure S (p_eql rfl rfl) rfl rfl rfl ?_; clear S a; intro a S
         refine l_mv 1 S rfl ?_; clear S a; intro a S
         refine l_split (S.of 73 rfl) (fun bc76 => ?_) (fun bc76 => ?_)
         ·
          have c76 := bc76
          have c76 := eq_of_beq c76
          refine l_on S rfl rfl rfl rfl bc76 ?_
          refine l_pure S (p_move rfl) rfl rfl rfl ?_; clear S a; intro a S
          refine l_on S rfl rfl rfl rfl bc76 ?_
          refine l_pure S (p_nilCheck rfl) rfl rfl rfl ?_; clear S a; intro a S
          refine l_on S rfl rfl rfl rfl bc76 ?_
          refine l_pure S (p_fieldAddr rfl (fun w => fa113_1 w _ _)) rfl rfl rfl ?_; clear S a; intro a S
          refine l_on S rfl rfl rfl rfl bc76 ?_
          refine l_read S H (r_load rfl List.mem_cons_self (show _ = some (.int .i64 nz) from dec_nd) (fun w hc => ld1 ag3 hc)) rfl rfl rfl ?_; clear S a; intro a S
          refine l_on S rfl rfl rfl rfl bc76 ?_
          refine l_pure S (p_eql rfl rfl) rfl rfl rfl ?_; clear S a; intro a S
          refine l_pure S (p_pick_t rfl bc76 rfl) rfl rfl rfl ?_; clear S a; intro a S
          refine l_nil ?_
          refine e_then ?_
          refine c_cond S rfl (fun bc78 => ?_) (fun bc78 => ?_)
          ·
           have c78 := bc78
           have c78 := eq_of_beq c78
           refine wp_seq ?_
           refine c_region ?_
           refine l_mv 2 S rfl ?_; clear S a; intro a S
           refine l_pure S (p_fieldAddr rfl (fun w => fa113_2 w _ _)) rfl rfl rfl ?_; clear S a; intro a S
           refine l_read S H (r_load rfl List.mem_cons_self (show _ = some (.int .i64 pz) from dec_dp) (fun w hc => ld1 ag3 hc)) rfl rfl rfl ?_; clear S a; intro a S
           refine l_pure S (p_sub (r := (pz - 1)) rfl rfl (IntWalk.i64_in _ (by omega))) rfl rfl rfl ?_; clear S a; intro a S
           refine l_mv 1 S rfl ?_; clear S a; intro a S
           refine l_pure S (p_fieldAddr rfl (fun w => fa113_2 w _ _)) rfl rfl rfl ?_; clear S a; intro a S
           refine l_store S H rfl rfl rfl (Upd.cast (set_dp (v := (pz - 1))) .here) (by rw [dec_size]; omega) (fun w u hc hz => st1 sz3 rfl hc hz) rfl rfl ?_; clear S a H; intro w a H S
           refine l_nil ?_
           refine e_then ?_
           refine wp_exit ?_
           refine e_then_exit ?_
           refine e_in_other rfl ?_
           refine e_then_exit ?_
           refine e_in_exit ?_
           refine e_then ?_
           refine c_region ?_
           refine l_mv 1 S rfl ?_; clear S a; intro a S
           refine l_pure S (p_add (r := (i + 1)) rfl rfl (IntWalk.i64_in _ (by omega))) rfl rfl rfl ?_; clear S a; intro a S
           refine l_mv 1 S rfl ?_; clear S a; intro a S
           refine l_nil ?_
           refine e_then ?_
           exact ⟨(fu, (i + 1), sd, true, gz, E, nz, (pz - 1), tz), ⟨S.only ⟨rfl, rfl, rfl, rfl, rfl, rfl, trivial⟩, H, by rw [← hR]; simp only [sdl, bc62, bc64, bc66, bc71, bc73, bc76, bc78, cond_true, cond_false], by omega, ⟨by omega, hD, by omega, by omega, by omega⟩⟩, Nat.lt_succ_self fu⟩
          ·
           have c78 := bc78
           have c78 := ne_of_beq_false c78
           refine wp_skip ?_
           refine e_then ?_
           refine wp_seq ?_
           refine wp_seq ?_
           refine c_region ?_
           refine l_mv 2 S rfl ?_; clear S a; intro a S
           refine l_pure S (p_fieldAddr rfl (fun w => fa113_1 w _ _)) rfl rfl rfl ?_; clear S a; intro a S
           refine l_read S H (r_load rfl List.mem_cons_self (show _ = some (.int .i64 nz) from dec_nd) (fun w hc => ld1 ag3 hc)) rfl rfl rfl ?_; clear S a; intro a S
           refine l_pure S (p_lss rfl rfl) rfl rfl rfl ?_; clear S a; intro a S
           refine l_nil ?_
           refine e_then ?_
           refine c_cond S rfl (fun bc80 => ?_) (fun bc80 => ?_)
           ·
            have c80 := bc80
            have c80 := of_decide_eq_true c80
            refine wp_seq ?_
            refine d_start (id := 25) [11] 12 #[false, false, false, false, false, false, false, false, false, false, false, false] H rfl rfl rfl (fun w H => ?_)
            refine d_mv [0, 1, 2, 5, 6, 8] #[true, true, true, false, false, true, true, false, true, false, false, false] S rfl (by kernel_rfl) (fun _ _ _ _ _ h => h) ?_; clear S a; intro a S
            refine d_pure (i := 3) #[true, true, true, true, false, true, true, false, true, false, false, false] S rfl (p_fieldAddr rfl (fun w => fa113_1 w _ _)) (wanted_none rfl) rfl rfl (by kernel_rfl) (fun _ _ _ h => h) ?_; clear S a; intro a S
            refine d_read (i := 4) #[true, true, true, true, true, true, true, false, true, false, false, false] S H rfl (r_load rfl List.mem_cons_self (show _ = some (.int .i64 nz) from dec_nd) (fun w hc => ld1 ag3 hc)) (wanted_none rfl) rfl rfl (by kernel_rfl) (fun _ _ _ h => h) ?_; clear S a; intro a S
            refine d_pure (i := 7) #[true, true, true, true, true, true, true, true, true, false, false, false] S rfl (p_index rfl rfl (fun w => ix_string Tryz.underlying9 (by omega) (by omega))) (wanted_none rfl) rfl rfl (by kernel_rfl) (fun _ _ _ h => h) ?_; clear S a; intro a S
            have := bt_rng s i
            refine d_pure (i := 9) #[true, true, true, true, true, true, true, true, true, true, false, false] S rfl (p_fieldAddr rfl (fun w => fa113_0 w _ _)) (wanted_none rfl) rfl rfl (by kernel_rfl) (fun _ _ _ h => h) ?_; clear S a; intro a S
            refine d_pure (i := 10) #[true, true, true, true, true, true, true, true, true, true, true, false] S rfl (p_indexAddr rfl rfl (fun w => ia_array Tryz.underlying111 sz5 (by omega) (by omega))) (wanted_none rfl) rfl rfl (by kernel_rfl) (fun _ _ _ h => h) ?_; clear S a; intro a S
            refine d_store (i := 11) #[true, true, true, true, true, true, true, true, true, true, true, true] S H rfl rfl rfl rfl (Upd.cast (dec_set (X := nz) (v := (HHW.bt s i)) (by omega) (by omega)) .here) (by rw [dec_size]; omega) (fun w u hc hz => st1 sz5 rfl hc hz) (wanted_none rfl) rfl (by kernel_rfl) rfl ?_; clear S a H; intro w a H S
            refine d_done (by kernel_rfl) ?_
            refine e_then ?_
            refine c_region ?_
            refine l_mv 2 S rfl ?_; clear S a; intro a S
            refine l_pure S (p_fieldAddr rfl (fun w => fa113_1 w _ _)) rfl rfl rfl ?_; clear S a; intro a S
            refine l_read S H (r_load rfl List.mem_cons_self (show _ = some (.int .i64 nz) from dec_nd) (fun w hc => ld1 ag3 hc)) rfl rfl rfl ?_; clear S a; intro a S
            refine l_pure S (p_add (r := (nz + 1)) rfl rfl (IntWalk.i64_in _ (by omega))) rfl rfl rfl ?_; clear S a; intro a S
            refine l_mv 1 S rfl ?_; clear S a; intro a S
            refine l_pure S (p_fieldAddr rfl (fun w => fa113_1 w _ _)) rfl rfl rfl ?_; clear S a; intro a S
            refine l_store S H rfl rfl rfl (Upd.cast (set_nd (v := (nz + 1))) .here) (by rw [dec_size]; omega) (fun w u hc hz => st1 sz3 rfl hc hz) rfl rfl ?_; clear S a H; intro w a H S
            refine l_nil ?_
            refine e_then ?_
            refine wp_exit ?_
            refine e_in_other rfl ?_
            refine e_then_exit ?_
            refine e_in_exit ?_
            refine e_then ?_
            refine c_region ?_
            refine l_mv 1 S rfl ?_; clear S a; intro a S
            refine l_pure S (p_add (r := (i + 1)) rfl rfl (IntWalk.i64_in _ (by omega))) rfl rfl rfl ?_; clear S a; intro a S
            refine l_mv 1 S rfl ?_; clear S a; intro a S
            refine l_nil ?_
            refine e_then ?_
            exact ⟨(fu, (i + 1), sd, true, gz, (upd E nz (HHW.bt s i)), (nz + 1), pz, tz), ⟨S.only ⟨rfl, rfl, rfl, rfl, rfl, rfl, trivial⟩, H, by rw [← hR]; simp only [sdl, bc62, bc64, bc66, bc71, bc73, bc76, bc78, bc80, cond_true, cond_false], by omega, ⟨by omega, hD.upd (by omega) (by omega) (by omega), by omega, by omega, by omega⟩⟩, Nat.lt_succ_self fu⟩
           ·
            have c80 := bc80
            have c80 := of_decide_eq_false c80
            refine wp_seq ?_
            refine c_region ?_
            refine l_mv 2 S rfl ?_; clear S a; intro a S
            refine l_pure S (p_index rfl rfl (fun w => ix_string Tryz.underlying9 (by omega) (by omega))) rfl rfl rfl ?_; clear S a; intro a S
            have := bt_rng s i
            refine l_pure S (p_neq rfl rfl) rfl rfl rfl ?_; clear S a; intro a S
            refine l_nil ?_
            refine e_then ?_
            refine c_cond S rfl (fun bc82 => ?_) (fun bc82 => ?_)
            ·
             have c82 := bc82
             have c82 := bne_iff_ne.1 c82
             refine c_region ?_
             refine l_mv 2 S rfl ?_; clear S a; intro a S
             refine l_pure S (p_fieldAddr rfl (fun w => fa113_4 w _ _)) rfl rfl rfl ?_; clear S a; intro a S
             refine l_store S H rfl rfl rfl (Upd.cast (set_tr (v := true)) .here) (by rw [dec_size]; omega) (fun w u hc hz => st1 sz4 rfl hc hz) rfl rfl ?_; clear S a H; intro w a H S
             refine l_nil ?_
             refine e_then ?_
             refine wp_exit ?_
             refine e_in_other rfl ?_
             refine e_then_exit ?_
             refine e_in_exit ?_
             refine e_then ?_
             refine c_region ?_
             refine l_mv 1 S rfl ?_; clear S a; intro a S
             refine l_pure S (p_add (r := (i + 1)) rfl rfl (IntWalk.i64_in _ (by omega))) rfl rfl rfl ?_; clear S a; intro a S
             refine l_mv 1 S rfl ?_; clear S a; intro a S
             refine l_nil ?_
             refine e_then ?_
             exact ⟨(fu, (i + 1), sd, true, gz, E, nz, pz, true), ⟨S.only ⟨rfl, rfl, rfl, rfl, rfl, rfl, trivial⟩, H, by rw [← hR]; simp only [sdl, bc62, bc64, bc66, bc71, bc73, bc76, bc78, bc80, bc82, cond_true, cond_false], by omega, ⟨by omega, hD, by omega, by omega, by omega⟩⟩, Nat.lt_succ_self fu⟩
            ·
             have c82 := bc82
             have c82 := bne_eq_false_iff_eq.1 c82
             refine wp_skip ?_
             refine e_then ?_
             refine wp_exit ?_
             refine e_in_other rfl ?_
             refine e_then_exit ?_
             refine e_in_exit ?_
             refine e_then ?_
             refine c_region ?_
             refine l_mv 1 S rfl ?_; clear S a; intro a S
             refine l_pure S (p_add (r := (i + 1)) rfl rfl (IntWalk.i64_in _ (by omega))) rfl rfl rfl ?_; clear S a; intro a S
             refine l_mv 1 S rfl ?_; clear S a; intro a S
             refine l_nil ?_
             refine e_then ?_
             exact ⟨(fu, (i + 1), sd, true, gz, E, nz, pz, tz), ⟨S.only ⟨rfl, rfl, rfl, rfl, rfl, rfl, trivial⟩, H, by rw [← hR]; simp only [sdl, bc62, bc64, bc66, bc71, bc73, bc76, bc78, bc80, bc82, cond_true, cond_false], by omega, ⟨by omega, hD, by omega, by omega, by omega⟩⟩, Nat.lt_succ_self fu⟩
         ·
          have c76 := bc76
          have c76 := ne_of_beq_false c76
          refine l_off S rfl rfl rfl rfl bc76 rfl rfl ?_; clear S a; intro a S
          refine l_off S rfl rfl rfl rfl bc76 rfl rfl ?_; clear S a; intro a S
          refine l_off S rfl rfl rfl rfl bc76 rfl rfl ?_; clear S a; intro a S
          refine l_off S rfl rfl rfl rfl bc76 rfl rfl ?_; clear S a; intro a S
          refine l_off S rfl rfl rfl rfl bc76 rfl rfl ?_; clear S a; intro a S
          refine l_pure S (p_pick_f rfl bc76 rfl) rfl rfl rfl ?_; clear S a; intro a S
          refine l_nil ?_
          refine e_then ?_
          refine c_cond (b := false) S rfl (fun h => by cases h) (fun _ => ?_)
          refine wp_skip ?_
          refine e_then ?_
          refine wp_seq ?_
          refine wp_seq ?_
          refine c_region ?_
          refine l_mv 2 S rfl ?_; clear S a; intro a S
          refine l_pure S (p_fieldAddr rfl (fun w => fa113_1 w _ _)) rfl rfl rfl ?_; clear S a; intro a S
          refine l_read S H (r_load rfl List.mem_cons_self (show _ = some (.int .i64 nz) from dec_nd) (fun w hc => ld1 ag3 hc)) rfl rfl rfl ?_; clear S a; intro a S
          refine l_pure S (p_lss rfl rfl) rfl rfl rfl ?_; clear S a; intro a S
          refine l_nil ?_
          refine e_then ?_
          refine c_cond S rfl (fun bc86 => ?_) (fun bc86 => ?_)
          ·
           have c86 := bc86
           have c86 := of_decide_eq_true c86
           refine wp_seq ?_
           refine d_start (id := 25) [11] 12 #[false, false, false, false, false, false, false, false, false, false, false, false] H rfl rfl rfl (fun w H => ?_)
           refine d_mv [0, 1, 2, 5, 6, 8] #[true, true, true, false, false, true, true, false, true, false, false, false] S rfl (by kernel_rfl) (fun _ _ _ _ _ h => h) ?_; clear S a; intro a S
           refine d_pure (i := 3) #[true, true, true, true, false, true, true, false, true, false, false, false] S rfl (p_fieldAddr rfl (fun w => fa113_1 w _ _)) (wanted_none rfl) rfl rfl (by kernel_rfl) (fun _ _ _ h => h) ?_; clear S a; intro a S
           refine d_read (i := 4) #[true, true, true, true, true, true, true, false, true, false, false, false] S H rfl (r_load rfl List.mem_cons_self (show _ = some (.int .i64 nz) from dec_nd) (fun w hc => ld1 ag3 hc)) (wanted_none rfl) rfl rfl (by kernel_rfl) (fun _ _ _ h => h) ?_; clear S a; intro a S
           refine d_pure (i := 7) #[true, true, true, true, true, true, true, true, true, false, false, false] S rfl (p_index rfl rfl (fun w => ix_string Tryz.underlying9 (by omega) (by omega))) (wanted_none rfl) rfl rfl (by kernel_rfl) (fun _ _ _ h => h) ?_; clear S a; intro a S
           have := bt_rng s i
           refine d_pure (i := 9) #[true, true, true, true, true, true, true, true, true, true, false, false] S rfl (p_fieldAddr rfl (fun w => fa113_0 w _ _)) (wanted_none rfl) rfl rfl (by kernel_rfl) (fun _ _ _ h => h) ?_; clear S a; intro a S
           refine d_pure (i := 10) #[true, true, true, true, true, true, true, true, true, true, true, false] S rfl (p_indexAddr rfl rfl (fun w => ia_array Tryz.underlying111 sz5 (by omega) (by omega))) (wanted_none rfl) rfl rfl (by kernel_rfl) (fun _ _ _ h => h) ?_; clear S a; intro a S
           refine d_store (i := 11) #[true, true, true, true, true, true, true, true, true, true, true, true] S H rfl rfl rfl rfl (Upd.cast (dec_set (X := nz) (v := (HHW.bt s i)) (by omega) (by omega)) .here) (by rw [dec_size]; omega) (fun w u hc hz => st1 sz5 rfl hc hz) (wanted_none rfl) rfl (by kernel_rfl) rfl ?_; clear S a H; intro w a H S
           refine d_done (by kernel_rfl) ?_
           refine e_then ?_
           refine c_region ?_
           refine l_mv 2 S rfl ?_; clear S a; intro a S
           refine l_pure S (p_fieldAddr rfl (fun w => fa113_1 w _ _)) rfl rfl rfl ?_; clear S a; intro a S
           refine l_read S H (r_load rfl List.mem_cons_self (show _ = some (.int .i64 nz) from dec_nd) (fun w hc => ld1 ag3 hc)) rfl rfl rfl ?_; clear S a; intro a S
           refine l_pure S (p_add (r := (nz + 1)) rfl rfl (IntWalk.i64_in _ (by omega))) rfl rfl rfl ?_; clear S a; intro a S
           refine l_mv 1 S rfl ?_; clear S a; intro a S
           refine l_pure S (p_fieldAddr rfl (fun w => fa113_1 w _ _)) rfl rfl rfl ?_; clear S a; intro a S
           refine l_store S H rfl rfl rfl (Upd.cast (set_nd (v := (nz + 1))) .here) (by rw [dec_size]; omega) (fun w u hc hz => st1 sz3 rfl hc hz) rfl rfl ?_; clear S a H; intro w a H S
           refine l_nil ?_
           refine e_then ?_
           refine wp_exit ?_
           refine e_in_other rfl ?_
           refine e_then_exit ?_
           refine e_in_exit ?_
           refine e_then ?_
           refine c_region ?_
           refine l_mv 1 S rfl ?_; clear S a; intro a S
           refine l_pure S (p_add (r := (i + 1)) rfl rfl (IntWalk.i64_in _ (by omega))) rfl rfl rfl ?_; clear S a; intro a S
           refine l_mv 1 S rfl ?_; clear S a; intro a S
           refine l_nil ?_
           refine e_then ?_
           exact ⟨(fu, (i + 1), sd, true, gz, (upd E nz (HHW.bt s i)), (nz + 1), pz, tz), ⟨S.only ⟨rfl, rfl, rfl, rfl, rfl, rfl, trivial⟩, H, by rw [← hR]; simp only [sdl, bc62, bc64, bc66, bc71, bc73, bc76, bc86, cond_true, cond_false], by omega, ⟨by omega, hD.upd (by omega) (by omega) (by omega), by omega, by omega, by omega⟩⟩, Nat.lt_succ_self fu⟩
          ·
           have c86 := bc86
           have c86 := of_decide_eq_false c86
           refine wp_seq ?_
           refine c_region ?_
           refine l_mv 2 S rfl ?_; clear S a; intro a S
           refine l_pure S (p_index rfl rfl (fun w => ix_string Tryz.underlying9 (by omega) (by omega))) rfl rfl rfl ?_; clear S a; intro a S
           have := bt_rng s i
           refine l_pure S (p_neq rfl rfl) rfl rfl rfl ?_; clear S a; intro a S
           refine l_nil ?_
           refine e_then ?_
           refine c_cond S rfl (fun bc88 => ?_) (fun bc88 => ?_)
           ·
            have c88 := bc88
            have c88 := bne_iff_ne.1 c88
            refine c_region ?_
            refine l_mv 2 S rfl ?_; clear S a; intro a S
            refine l_pure S (p_fieldAddr rfl (fun w => fa113_4 w _ _)) rfl rfl rfl ?_; clear S a; intro a S
            refine l_store S H rfl rfl rfl (Upd.cast (set_tr (v := true)) .here) (by rw [dec_size]; omega) (fun w u hc hz => st1 sz4 rfl hc hz) rfl rfl ?_; clear S a H; intro w a H S
            refine l_nil ?_
            refine e_then ?_
            refine wp_exit ?_
            refine e_in_other rfl ?_
            refine e_then_exit ?_
            refine e_in_exit ?_
            refine e_then ?_
            refine c_region ?_
            refine l_mv 1 S rfl ?_; clear S a; intro a S
            refine l_pure S (p_add (r := (i + 1)) rfl rfl (IntWalk.i64_in _ (by omega))) rfl rfl rfl ?_; clear S a; intro a S
            refine l_mv 1 S rfl ?_; clear S a; intro a S
            refine l_nil ?_
            refine e_then ?_
            exact ⟨(fu, (i + 1), sd, true, gz, E, nz, pz, true), ⟨S.only ⟨rfl, rfl, rfl, rfl, rfl, rfl, trivial⟩, H, by rw [← hR]; simp only [sdl, bc62, bc64, bc66, bc71, bc73, bc76, bc86, bc88, cond_true, cond_false], by omega, ⟨by omega, hD, by omega, by omega, by omega⟩⟩, Nat.lt_succ_self fu⟩
           ·
            have c88 := bc88
            have c88 := bne_eq_false_iff_eq.1 c88
            refine wp_skip ?_
            refine e_then ?_
            refine wp_exit ?_
            refine e_in_other rfl ?_
            refine e_then_exit ?_
            refine e_in_exit ?_
            refine e_then ?_
            refine c_region ?_
            refine l_mv 1 S rfl ?_; clear S a; intro a S
            refine l_pure S (p_add (r := (i + 1)) rfl rfl (IntWalk.i64_in _ (by omega))) rfl rfl rfl ?_; clear S a; intro a S
            refine l_mv 1 S rfl ?_; clear S a; intro a S
            refine l_nil ?_
            refine e_then ?_
            exact ⟨(fu, (i + 1), sd, true, gz, E, nz, pz, tz), ⟨S.only ⟨rfl, rfl, rfl, rfl, rfl, rfl, trivial⟩, H, by rw [← hR]; simp only [sdl, bc62, bc64, bc66, bc71, bc73, bc76, bc86, bc88, cond_true, cond_false], by omega, ⟨by omega, hD, by omega, by omega, by omega⟩⟩, Nat.lt_succ_self fu⟩
        ·
         have c73 := bc73
         have c73 := of_decide_eq_false c73
         refine wp_skip ?_
         refine e_in 3 ?_
         refine e_then ?_
         refine wp_exit ?_
         refine e_in_other rfl ?_
         refine e_then_exit ?_
         refine e_then_exit ?_
         refine e_in_exit ?_
         refine e_then ?_
         exact ⟨i, sd, sg, gz, E, nz, pz, tz, S.only ⟨rfl, rfl, rfl, rfl, rfl, rfl, trivial⟩, H, by rw [← hR]; simp only [sdl, bc62, bc64, bc66, bc71, bc73, cond_true, cond_false], ⟨by omega, hD, by omega, by omega⟩⟩
       ·
        have c71 := bc71
        have c71 := of_decide_eq_false c71
        refine l_off S rfl rfl rfl rfl bc71 rfl rfl ?_; clear S a; intro a S
        refine l_off S rfl rfl rfl rfl bc71 rfl rfl ?_; clear S a; intro a S
        refine l_off S rfl rfl rfl rfl bc71 rfl rfl ?_; clear S a; intro a S
        refine l_off S rfl rfl rfl rfl bc71 rfl rfl ?_; clear S a; intro a S
        refine l_pure S (p_pick_f rfl bc71 rfl) rfl rfl rfl ?_; clear S a; intro a S
        refine l_mv 1 S rfl ?_; clear S a; intro a S
        refine l_nil ?_
        refine e_then ?_
        refine c_cond (b := false) S rfl (fun h => by cases h) (fun _ => ?_)
        refine wp_skip ?_
        refine e_in 3 ?_
        refine e_then ?_
        refine wp_exit ?_
        refine e_in_other rfl ?_
        refine e_then_exit ?_
        refine e_then_exit ?_
        refine e_in_exit ?_
        refine e_then ?_
        exact ⟨i, sd, sg, gz, E, nz, pz, tz, S.only ⟨rfl, rfl, rfl, rfl, rfl, rfl, trivial⟩, H, by rw [← hR]; simp only [sdl, bc62, bc64, bc66, bc71, cond_true, cond_false], ⟨by omega, hD, by omega, by omega⟩⟩
    ·
     have c62 := bc62
     have c62 := of_decide_eq_false c62
     refine wp_exit ?_
     refine e_then_exit ?_
     refine e_then_exit ?_
     refine e_in_exit ?_
     refine e_then ?_
     exact ⟨i, sd, sg, gz, E, nz, pz, tz, S.only ⟨rfl, rfl, rfl, rfl, rfl, rfl, trivial⟩, H, by rw [← hR]; simp only [sdl, bc62, cond_true, cond_false], ⟨by omega, hD, by omega, by omega⟩⟩
  ·
   refine wp_seq ?_
   refine c_region ?_
   refine l_mv 2 S rfl ?_; clear S a; intro a S
   refine l_pure S (p_index rfl rfl (fun w => ix_string Tryz.underlying9 (by omega) (by omega))) rfl rfl rfl ?_; clear S a; intro a S
   have := bt_rng s 0
   refine l_nil ?_
   refine e_then ?_
   refine wp_block ?_
   refine wp_seq ?_
   refine c_region ?_
   refine l_pure S (p_eql rfl rfl) rfl rfl rfl ?_; clear S a; intro a S
   refine l_mv 1 S rfl ?_; clear S a; intro a S
   refine l_nil ?_
   refine e_then ?_
   refine c_cond S rfl (fun bc92 => ?_) (fun bc92 => ?_)
   ·
    have c92 := bc92
    have c92 := eq_of_beq c92
    refine c_region ?_
    refine l_mv 1 S rfl ?_; clear S a; intro a S
    refine l_pure S (p_add (r := 1) rfl rfl (by decide)) rfl rfl rfl ?_; clear S a; intro a S
    refine l_mv 1 S rfl ?_; clear S a; intro a S
    refine l_nil ?_
    refine e_in 0 ?_
    refine e_then ?_
    exact ⟨1, false, S.only ⟨rfl, rfl, rfl, rfl, trivial⟩, H, by rw [← hR]; simp only [dset, bc3, bc92, cond_true, cond_false], by omega⟩
   ·
    have c92 := bc92
    have c92 := ne_of_beq_false c92
    refine wp_seq ?_
    refine c_region ?_
    refine l_pure S (p_eql rfl rfl) rfl rfl rfl ?_; clear S a; intro a S
    refine l_mv 1 S rfl ?_; clear S a; intro a S
    refine l_nil ?_
    refine e_then ?_
    refine c_cond S rfl (fun bc94 => ?_) (fun bc94 => ?_)
    ·
     have c94 := bc94
     have c94 := eq_of_beq c94
     refine wp_seq ?_
     refine c_region ?_
     refine l_mv 1 S rfl ?_; clear S a; intro a S
     refine l_pure S (p_add (r := 1) rfl rfl (by decide)) rfl rfl rfl ?_; clear S a; intro a S
     refine l_mv 1 S rfl ?_; clear S a; intro a S
     refine l_nil ?_
     refine e_then ?_
     refine c_region ?_
     refine l_mv 2 S rfl ?_; clear S a; intro a S
     refine l_pure S (p_fieldAddr rfl (fun w => fa113_3 w _ _)) rfl rfl rfl ?_; clear S a; intro a S
     refine l_store S H rfl rfl rfl (Upd.cast (set_ng (v := true)) .here) (by rw [dec_size]; omega) (fun w u hc hz => st1 sz4 rfl hc hz) rfl rfl ?_; clear S a H; intro w a H S
     refine l_nil ?_
     refine e_in 0 ?_
     refine e_then ?_
     exact ⟨1, true, S.only ⟨rfl, rfl, rfl, rfl, trivial⟩, H, by rw [← hR]; simp only [dset, bc3, bc92, bc94, cond_true, cond_false], by omega⟩
    ·
     have c94 := bc94
     have c94 := ne_of_beq_false c94
     refine wp_skip ?_
     refine e_in 0 ?_
     refine e_then ?_
     exact ⟨0, false, S.only ⟨rfl, rfl, rfl, rfl, trivial⟩, H, by rw [← hR]; simp only [dset, bc3, bc92, bc94, cond_true, cond_false], by omega⟩
end d2
end Go.Proofs.YtneoieigaakoaaaGreatDoor.pf
end
section
namespace Go.Proofs.YtneoieigaakoaaaGreatDoor.pf
open Go.Proofs.YtneoieigaakoaaaGreatDoor.fx
open Go.RowKit Go.Proofs.HHW Go.Proofs.YtneoieigaakoaaaGreatDoorW.PrintWords
def Ds (E : Int → Int) (lo hi : Int) : Prop := ∀ i, lo ≤ i → i < hi → 48 ≤ E i ∧ E i ≤ 57
theorem Ds.upd {E : Int → Int} {w c : Int} (h : Ds E 0 w) (hc : 48 ≤ c ∧ c ≤ 57) : Ds (pf.upd E w c) 0 (w + 1) := fun i a b => by
 unfold pf.upd
 split
 ·
  exact hc
 ·
  exact h i a (by omega)
theorem Ds.up2 {E : Int → Int} {r n w c : Int} (h : Ds E r n) (hw : w < r) : Ds (pf.upd E w c) (r + 1) n := fun i a b => by
 unfold pf.upd
 rw [if_neg (by omega)]
 exact h i (by omega) b
theorem upd0 {E : Int → Int} {w c v : Int} (hw : 0 ≤ w) (h0 : w = 0 → c = v) (h1 : 0 < w → E 0 = v) : pf.upd E w c 0 = v := by
 unfold pf.upd
 split
 ·
  exact h0 (by omega)
 ·
  exact h1 (by omega)
def lgi (n : Int) : Nat := Nat.log2 n.toNat
theorem lgi_le {n : Int} (h : n < 18446744073709551616) : lgi n ≤ 63 := by
 unfold lgi
 by_cases h0 : n.toNat = 0
 ·
  rw [h0]; decide
 ·
  have := (Nat.log2_lt h0 (k := 64)).2 (by omega); omega
theorem lgi_ten {n : Int} (h : 1 ≤ n) : lgi n + 1 ≤ lgi (n * 10) := by
 unfold lgi
 obtain ⟨m, rfl⟩ := Int.eq_ofNat_of_zero_le (show 0 ≤ n by omega)
 have hm : m ≠ 0 := by omega
 rw [show ((m : Int) * 10).toNat = m * 10 by omega, show ((m : Int)).toNat = m by omega]
 have a := (log2_bd hm).1
 exact (Nat.le_log2 (by omega)).2 (by rw [Nat.pow_succ]; omega)
theorem q_bd {n : Int} {k : Nat} (h : 0 ≤ n ∧ n < 10 * 2 ^ k) : (0 ≤ n / 2 ^ k ∧ n / 2 ^ k ≤ 9) ∧ (0 ≤ n % 2 ^ k ∧ n % 2 ^ k < 2 ^ k) := by
 have hp : (0 : Int) < 2 ^ k := Int.pow_pos (by decide)
 exact ⟨⟨Int.ediv_nonneg h.1 (Int.le_of_lt hp), Int.le_of_lt_add_one (Int.ediv_lt_of_lt_mul hp h.2)⟩, Int.emod_nonneg _ (by omega), Int.emod_lt_of_pos _ hp⟩
theorem q_0 {n : Int} {k : Nat} (h : n / 2 ^ k = 0) : n < 2 ^ k := by
 have hp : (0 : Int) < 2 ^ k := Int.pow_pos (by decide)
 have := Int.lt_mul_ediv_self_add (x := n) hp
 rw [h, Int.mul_zero, Int.zero_add] at this
 exact this
theorem q_1 {n : Int} {k : Nat} (h0 : 0 ≤ n) (h : n / 2 ^ k ≠ 0) : 2 ^ k ≤ n := by
 have hp : (0 : Int) < 2 ^ k := Int.pow_pos (by decide)
 rcases Int.lt_or_le n (2 ^ k) with q | q
 ·
  exact absurd (Int.ediv_eq_zero_of_lt h0 q) h
 ·
  exact q
theorem q_pos {n : Int} {k : Nat} (h : 2 ^ k ≤ n) : 1 ≤ n / 2 ^ k := by
 have hp : (0 : Int) < 2 ^ k := Int.pow_pos (by decide)
 exact Int.le_ediv_of_mul_le hp (by rw [Int.one_mul]; exact h)
theorem q_lt {x : Int} {k : Nat} (hx : 1 ≤ x) (hk : (2 : Int) ≤ 2 ^ k) : x / 2 ^ k < x := by
 have hp : (0 : Int) < 2 ^ k := by omega
 refine Int.ediv_lt_of_lt_mul hp ?_
 have : x * 2 ≤ x * 2 ^ k := Int.mul_le_mul_of_nonneg_left hk (by omega)
 omega
theorem dvd_next {n : Int} {k j : Nat} (h : (2 : Int) ^ j ∣ n) : (2 : Int) ^ (j + 1) ∣ n % 2 ^ k * 10 := by
 have h2 : (2 : Int) ^ j ∣ n % 2 ^ k := by
  rcases Nat.le_total j k with q | q
  ·
   rw [Int.emod_def]
   refine Int.dvd_sub h (Int.dvd_mul_of_dvd_left ?_)
   obtain ⟨c, rfl⟩ := Nat.exists_eq_add_of_le q
   exact ⟨2 ^ c, Int.pow_add ..⟩
  ·
   obtain ⟨c, rfl⟩ := Nat.exists_eq_add_of_le q
   obtain ⟨m, hm⟩ := h
   rw [hm, Int.pow_add, Int.mul_assoc, Int.mul_emod_right]
   exact Int.dvd_zero _
 obtain ⟨m, hm⟩ := h2
 refine ⟨m * 5, ?_⟩
 rw [hm, Int.pow_succ, Int.mul_assoc, Int.mul_assoc]
 exact congrArg _ (by omega)
theorem dvd_le {n : Int} {k j : Nat} (h : (2 : Int) ^ j ∣ n) (h0 : 0 < n) (h1 : n < 10 * 2 ^ k) : j < k + 4 := by
 rcases Nat.lt_or_ge j (k + 4) with q | q
 ·
  exact q
 ·
  exfalso
  have a := Int.le_of_dvd h0 h
  have b : (2 : Int) ^ (k + 4) ≤ 2 ^ j := by
   obtain ⟨c, rfl⟩ := Nat.exists_eq_add_of_le q
   rw [Int.pow_add _ (k + 4)]
   have : (0 : Int) < 2 ^ c := Int.pow_pos (by decide)
   have hp : (0 : Int) < 2 ^ (k + 4) := Int.pow_pos (by decide)
   calc (2 : Int) ^ (k + 4) = 2 ^ (k + 4) * 1 := (Int.mul_one _).symm
    _ ≤ 2 ^ (k + 4) * 2 ^ c := Int.mul_le_mul_of_nonneg_left (by omega) (Int.le_of_lt hp)
  rw [Int.pow_add] at b
  have e : (2 : Int) ^ 4 = 16 := by decide
  rw [e] at b
  have hp : (0 : Int) < 2 ^ k := Int.pow_pos (by decide)
  omega
theorem step1 {D : Int → Int} {r n : Int} (hr : 0 ≤ r) (hr0 : r = 0 → n = 0) (hr1 : 1 ≤ r → 1 ≤ n) (hD : D 0 ≠ 48) (h : 48 ≤ D r ∧ D r ≤ 57) : 1 ≤ n * 10 + D r - 48 := by
 rcases Int.lt_or_eq_of_le hr with q | q
 ·
  have := hr1 (by omega); omega
 ·
  subst q; have := hr0 rfl; omega
theorem step2 {D : Int → Int} {r n : Int} (hr : 0 ≤ r) (hr0 : r = 0 → n = 0) (h : r = 0) : n * 10 + D r - 48 = D 0 - 48 := by
 subst h; have := hr0 rfl; omega
theorem wpos {w n m : Int} (h : 0 ≤ w) (h0 : w = 0 → n = m) (hm : n ≠ m) : 0 < w := by
 rcases Int.lt_or_eq_of_le h with q | q
 ·
  exact q
 ·
  exact absurd (h0 q.symm) hm
theorem shr_fin {D E : Int → Int} {r1 m0 pz dp nd : Int} {k : Nat} (h1 : 1 ≤ r1 ∧ r1 ≤ nd + 63) (hm1 : r1 = 1 → m0 = D 0 - 48) (hz : E 0 = m0 / 2 ^ k + 48) (hpz : pz = dp - (r1 - 1)) (hd : 48 ≤ D 0 ∧ D 0 ≤ 57) (hD : D 0 ≠ 48) (hk : (2 : Int) ≤ 2 ^ k) (hq : m0 / 2 ^ k ≤ 9) (hn : nd ≤ 800) :
  dp - 1000 ≤ pz ∧ pz ≤ dp ∧ 20 * pz + E 0 < 20 * dp + D 0 := by
 rw [hz]
 by_cases q : r1 = 1
 ·
  have := q_lt (x := m0) (k := k) (by have := hm1 q; omega) hk
  have := hm1 q
  omega
 ·
  omega
end Go.Proofs.YtneoieigaakoaaaGreatDoor.pf
end
section
namespace Go.Proofs.YtneoieigaakoaaaGreatDoor.pf
open Go.Proofs.YtneoieigaakoaaaGreatDoor.fx
open Go.RowKit Go.Proofs.HHW Go.Proofs.YtneoieigaakoaaaGreatDoorW.PrintWords
namespace d1
def trm1 (D : Int → Int) (nd dp : Int) (nz : Int) : Int × Int := (bif (nz == 0) then (nz, 0) else (nz, dp))
def trml (D : Int → Int) (nd dp : Int) : Nat → Int → Int × Int
 | 0, _ => default
 | fu + 1, nz => (bif (decide (nz > 0)) then (bif ((D (nz - 1)) == 48) then trml D nd dp fu (nz - 1) else trm1 D nd dp nz) else trm1 D nd dp nz)
def trm (D : Int → Int) (nd dp : Int) : Int × Int := trml D nd dp ((nd.toNat) + 1) nd
set_option maxHeartbeats 2000000 in
theorem trm_ (wb w0 : World) (B : Nat) (L0 : List (Nat × Obj)) (gd : Nat) (D : Int → Int) (nd dp : Int) (ng tr : Bool) (hn : 0 ≤ nd ∧ nd ≤ 800) (H : HH B wb w0 ((gd, .cells (decC D nd dp ng tr) 113 (0, 0)) :: L0)) : Calls Tryz.prog 92 #[.pointer (some ⟨gd, 0, none⟩)] w0 fun e w' => e = .returned (.tuple #[]) ∧ HH B wb w' ((gd, .cells (decC D (trm D nd dp).1 (trm D nd dp).2 ng tr) 113 (0, 0)) :: L0) ∧ 0 ≤ (trm D nd dp).1 ∧ (trm D nd dp).1 ≤ nd ∧ (D 0 ≠ 48 → 0 < nd → 0 < (trm D nd dp).1 ∧ (trm D nd dp).2 = dp) := by
 generalize hR : trm D nd dp = R
 refine c_enter (args := [.pointer (some ⟨gd, 0, none⟩)]) (k := 34) Tryz.func92 rfl rfl rfl (fun a S => ?_)
 refine c_cut (fun a w => ∃ nz : Int, SL a 35 [] [(0, .pointer (some ⟨gd, 0, none⟩))] ∧ HH B wb w ((gd, .cells (decC D nz dp ng tr) 113 (0, 0)) :: L0) ∧ trm1 D nd dp nz = R ∧ (0 ≤ nz ∧ nz ≤ nd ∧ (D 0 ≠ 48 → 0 < nd → 0 < nz))) ?_ ?_
 ·
  clear S a H hR; rintro a w ⟨nz, S, H, hR, hinv⟩
  obtain ⟨h1, h2, h3⟩ := hinv
  refine wp_seq ?_
  refine c_region ?_
  refine l_mv 2 S rfl ?_; clear S a; intro a S
  refine l_pure S (p_fieldAddr rfl (fun w => fa113_1 w _ _)) rfl rfl rfl ?_; clear S a; intro a S
  refine l_read S H (r_load rfl List.mem_cons_self (show _ = some (.int .i64 nz) from dec_nd) (fun w hc => ld1 ag3 hc)) rfl rfl rfl ?_; clear S a; intro a S
  refine l_pure S (p_eql rfl rfl) rfl rfl rfl ?_; clear S a; intro a S
  refine l_nil ?_
  refine e_then ?_
  refine c_cond S rfl (fun bc2 => ?_) (fun bc2 => ?_)
  ·
   have c2 := bc2
   have c2 := eq_of_beq c2
   refine c_region ?_
   refine l_mv 2 S rfl ?_; clear S a; intro a S
   refine l_pure S (p_fieldAddr rfl (fun w => fa113_2 w _ _)) rfl rfl rfl ?_; clear S a; intro a S
   refine l_store S H rfl rfl rfl (Upd.cast (set_dp (v := 0)) .here) (by rw [dec_size]; omega) (fun w u hc hz => st1 sz3 rfl hc hz) rfl rfl ?_; clear S a H; intro w a H S
   refine l_nil ?_
   have eR : R = (nz, 0) := by rw [← hR]; simp only [trm1, bc2, cond_true, cond_false]
   clear hR; subst eR
   exact r_end0 S rfl ⟨rfl, H, by dsimp only; omega, by dsimp only; omega, fun a b => ⟨by have := h3 a b; dsimp only; omega, by have := h3 a b; first | rfl | (exfalso; omega)⟩⟩
  ·
   have c2 := bc2
   have c2 := ne_of_beq_false c2
   refine wp_skip ?_
   have eR : R = (nz, dp) := by rw [← hR]; simp only [trm1, bc2, cond_true, cond_false]
   clear hR; subst eR
   exact r_end0 S rfl ⟨rfl, H, by dsimp only; omega, by dsimp only; omega, fun a b => ⟨by have := h3 a b; dsimp only; omega, by have := h3 a b; first | rfl | (exfalso; omega)⟩⟩
 ·
  refine wp_block ?_
  refine c_loop (σ := Nat × Int) (fun s_ a w => match s_ with | (k_, nz) => SL a 35 [] [(0, .pointer (some ⟨gd, 0, none⟩))] ∧ HH B wb w ((gd, .cells (decC D nz dp ng tr) 113 (0, 0)) :: L0) ∧ (trml D nd dp k_ nz = R ∧ nz.toNat < k_ ∧ (0 ≤ nz ∧ nz ≤ nd ∧ (D 0 ≠ 48 → 0 < nd → 0 < nz)))) (fun s_ => s_.1) ((nd.toNat) + 1, nd) ⟨S.only ⟨rfl, trivial⟩, H, by rw [← hR]; simp only [trm, cond_true, cond_false], by omega, ⟨by omega, by omega, fun _ h => h⟩⟩ ?_
  clear S a H hR; rintro ⟨fu, nz⟩ a w ⟨S, H, hR, hk, hinv⟩
  obtain ⟨fu, rfl⟩ : ∃ j, fu = j + 1 := ⟨fu - 1, by omega⟩
  obtain ⟨h1, h2, h3⟩ := hinv
  refine wp_seq ?_
  refine wp_seq ?_
  refine d_start (id := 0) [] 18 #[false, false, false, false, false, false, false, false, false, false, false, false, false, false, false, false, false, false] H rfl rfl rfl (fun w H => ?_)
  refine d_mv [0, 1] #[true, true, false, false, false, false, false, false, false, false, false, false, false, false, false, false, false, false] S rfl (by kernel_rfl) (fun _ _ _ _ _ h => h) ?_; clear S a; intro a S
  refine d_pure (i := 2) #[true, true, true, false, false, false, false, false, false, false, false, false, false, false, false, false, false, false] S rfl (p_fieldAddr rfl (fun w => fa113_1 w _ _)) (wanted_none rfl) rfl rfl (by kernel_rfl) (fun _ _ _ h => h) ?_; clear S a; intro a S
  refine d_read (i := 3) #[true, true, true, true, false, false, false, false, false, false, false, false, false, false, false, false, false, false] S H rfl (r_load rfl List.mem_cons_self (show _ = some (.int .i64 nz) from dec_nd) (fun w hc => ld1 ag3 hc)) (wanted_none rfl) rfl rfl (by kernel_rfl) (fun _ _ _ h => h) ?_; clear S a; intro a S
  refine d_pure (i := 4) #[true, true, true, true, true, false, false, false, false, false, false, false, false, false, false, false, false, false] S rfl (p_gtr rfl rfl) (wanted_none rfl) rfl rfl (by kernel_rfl) (fun _ _ _ h => h) ?_; clear S a; intro a S
  refine d_mv [5] #[true, true, true, true, true, true, false, false, false, false, false, false, false, false, false, false, false, false] S rfl (by kernel_rfl) (fun _ _ _ _ _ h => h) ?_; clear S a; intro a S
  refine d_split (S.of 7 rfl) (fun bc4 => ?_) (fun bc4 => ?_)
  ·
   have c4 := bc4
   have c4 := of_decide_eq_true c4
   refine d_pure (i := 6) #[true, true, true, true, true, true, true, false, false, false, false, false, false, false, false, false, false, false] S rfl (p_move rfl) (wanted_on S rfl rfl rfl rfl bc4) rfl rfl (by kernel_rfl) (fun _ _ _ h => h) ?_; clear S a; intro a S
   refine d_pure (i := 7) #[true, true, true, true, true, true, true, true, false, false, false, false, false, false, false, false, false, false] S rfl (p_move rfl) (wanted_on S rfl rfl rfl rfl bc4) rfl rfl (by kernel_rfl) (fun _ _ _ h => h) ?_; clear S a; intro a S
   refine d_pure (i := 8) #[true, true, true, true, true, true, true, true, true, false, false, false, false, false, false, false, false, false] S rfl (p_nilCheck rfl) (wanted_on S rfl rfl rfl rfl bc4) rfl rfl (by kernel_rfl) (fun _ _ _ h => h) ?_; clear S a; intro a S
   refine d_pure (i := 9) #[true, true, true, true, true, true, true, true, true, true, false, false, false, false, false, false, false, false] S rfl (p_fieldAddr rfl (fun w => fa113_1 w _ _)) (wanted_on S rfl rfl rfl rfl bc4) rfl rfl (by kernel_rfl) (fun _ _ _ h => h) ?_; clear S a; intro a S
   refine d_read (i := 10) #[true, true, true, true, true, true, true, true, true, true, true, false, false, false, false, false, false, false] S H rfl (r_load rfl List.mem_cons_self (show _ = some (.int .i64 nz) from dec_nd) (fun w hc => ld1 ag3 hc)) (wanted_on S rfl rfl rfl rfl bc4) rfl rfl (by kernel_rfl) (fun _ _ _ h => h) ?_; clear S a; intro a S
   refine d_pure (i := 11) #[true, true, true, true, true, true, true, true, true, true, true, true, false, false, false, false, false, false] S rfl (p_sub (r := (nz - 1)) rfl rfl (IntWalk.i64_in _ (by omega))) (wanted_on S rfl rfl rfl rfl bc4) rfl rfl (by kernel_rfl) (fun _ _ _ h => h) ?_; clear S a; intro a S
   refine d_pure (i := 12) #[true, true, true, true, true, true, true, true, true, true, true, true, true, false, false, false, false, false] S rfl (p_nilCheck rfl) (wanted_on S rfl rfl rfl rfl bc4) rfl rfl (by kernel_rfl) (fun _ _ _ h => h) ?_; clear S a; intro a S
   refine d_pure (i := 13) #[true, true, true, true, true, true, true, true, true, true, true, true, true, true, false, false, false, false] S rfl (p_fieldAddr rfl (fun w => fa113_0 w _ _)) (wanted_on S rfl rfl rfl rfl bc4) rfl rfl (by kernel_rfl) (fun _ _ _ h => h) ?_; clear S a; intro a S
   refine d_pure (i := 14) #[true, true, true, true, true, true, true, true, true, true, true, true, true, true, true, false, false, false] S rfl (p_indexAddr rfl rfl (fun w => ia_array Tryz.underlying111 sz5 (by omega) (by omega))) (wanted_on S rfl rfl rfl rfl bc4) rfl rfl (by kernel_rfl) (fun _ _ _ h => h) ?_; clear S a; intro a S
   refine d_read (i := 15) #[true, true, true, true, true, true, true, true, true, true, true, true, true, true, true, true, false, false] S H rfl (r_load rfl List.mem_cons_self (dec_at (X := (nz - 1)) (by omega) (by omega)) (fun w hc => ld1 ag5 hc)) (wanted_on S rfl rfl rfl rfl bc4) rfl rfl (by kernel_rfl) (fun _ _ _ h => h) ?_; clear S a; intro a S
   refine d_pure (i := 16) #[true, true, true, true, true, true, true, true, true, true, true, true, true, true, true, true, true, false] S rfl (p_eql rfl rfl) (wanted_on S rfl rfl rfl rfl bc4) rfl rfl (by kernel_rfl) (fun _ _ _ h => h) ?_; clear S a; intro a S
   refine d_pure (i := 17) #[true, true, true, true, true, true, true, true, true, true, true, true, true, true, true, true, true, true] S rfl (p_pick_t rfl bc4 rfl) (wanted_none rfl) rfl rfl (by kernel_rfl) (fun _ _ _ h => h) ?_; clear S a; intro a S
   refine d_done (by kernel_rfl) ?_
   refine e_then ?_
   refine c_cond S rfl (fun bc6 => ?_) (fun bc6 => ?_)
   ·
    have c6 := bc6
    have c6 := eq_of_beq c6
    refine wp_skip ?_
    refine e_then ?_
    refine wp_block ?_
    refine c_region ?_
    refine l_mv 2 S rfl ?_; clear S a; intro a S
    refine l_pure S (p_fieldAddr rfl (fun w => fa113_1 w _ _)) rfl rfl rfl ?_; clear S a; intro a S
    refine l_read S H (r_load rfl List.mem_cons_self (show _ = some (.int .i64 nz) from dec_nd) (fun w hc => ld1 ag3 hc)) rfl rfl rfl ?_; clear S a; intro a S
    refine l_pure S (p_sub (r := (nz - 1)) rfl rfl (IntWalk.i64_in _ (by omega))) rfl rfl rfl ?_; clear S a; intro a S
    refine l_mv 1 S rfl ?_; clear S a; intro a S
    refine l_pure S (p_fieldAddr rfl (fun w => fa113_1 w _ _)) rfl rfl rfl ?_; clear S a; intro a S
    refine l_store S H rfl rfl rfl (Upd.cast (set_nd (v := (nz - 1))) .here) (by rw [dec_size]; omega) (fun w u hc hz => st1 sz3 rfl hc hz) rfl rfl ?_; clear S a H; intro w a H S
    refine l_nil ?_
    refine e_in 1 ?_
    refine e_then ?_
    exact ⟨(fu, (nz - 1)), ⟨S.only ⟨rfl, trivial⟩, H, by rw [← hR]; simp only [trml, bc4, bc6, cond_true, cond_false], by omega, ⟨by omega, by omega, fun h0 h1 => by have hz : nz ≠ 1 := fun e => h0 (by rw [e] at c6; exact c6); omega⟩⟩, Nat.lt_succ_self fu⟩
   ·
    have c6 := bc6
    have c6 := ne_of_beq_false c6
    refine wp_exit ?_
    refine e_then_exit ?_
    refine e_then_exit ?_
    refine e_in_exit ?_
    refine e_then ?_
    exact ⟨nz, S.only ⟨rfl, trivial⟩, H, by rw [← hR]; simp only [trml, bc4, bc6, cond_true, cond_false], ⟨by omega, by omega, h3⟩⟩
  ·
   have c4 := bc4
   have c4 := of_decide_eq_false c4
   refine d_off (i := 6) #[true, true, true, true, true, true, true, false, false, false, false, false, false, false, false, false, false, false] S rfl (wanted_off S rfl rfl rfl rfl bc4) rfl rfl (by kernel_rfl) (fun _ _ _ h => h) ?_; clear S a; intro a S
   refine d_off (i := 7) #[true, true, true, true, true, true, true, true, false, false, false, false, false, false, false, false, false, false] S rfl (wanted_off S rfl rfl rfl rfl bc4) rfl rfl (by kernel_rfl) (fun _ _ _ h => h) ?_; clear S a; intro a S
   refine d_off (i := 8) #[true, true, true, true, true, true, true, true, true, false, false, false, false, false, false, false, false, false] S rfl (wanted_off S rfl rfl rfl rfl bc4) rfl rfl (by kernel_rfl) (fun _ _ _ h => h) ?_; clear S a; intro a S
   refine d_off (i := 9) #[true, true, true, true, true, true, true, true, true, true, false, false, false, false, false, false, false, false] S rfl (wanted_off S rfl rfl rfl rfl bc4) rfl rfl (by kernel_rfl) (fun _ _ _ h => h) ?_; clear S a; intro a S
   refine d_off (i := 10) #[true, true, true, true, true, true, true, true, true, true, true, false, false, false, false, false, false, false] S rfl (wanted_off S rfl rfl rfl rfl bc4) rfl rfl (by kernel_rfl) (fun _ _ _ h => h) ?_; clear S a; intro a S
   refine d_off (i := 11) #[true, true, true, true, true, true, true, true, true, true, true, true, false, false, false, false, false, false] S rfl (wanted_off S rfl rfl rfl rfl bc4) rfl rfl (by kernel_rfl) (fun _ _ _ h => h) ?_; clear S a; intro a S
   refine d_off (i := 12) #[true, true, true, true, true, true, true, true, true, true, true, true, true, false, false, false, false, false] S rfl (wanted_off S rfl rfl rfl rfl bc4) rfl rfl (by kernel_rfl) (fun _ _ _ h => h) ?_; clear S a; intro a S
   refine d_off (i := 13) #[true, true, true, true, true, true, true, true, true, true, true, true, true, true, false, false, false, false] S rfl (wanted_off S rfl rfl rfl rfl bc4) rfl rfl (by kernel_rfl) (fun _ _ _ h => h) ?_; clear S a; intro a S
   refine d_off (i := 14) #[true, true, true, true, true, true, true, true, true, true, true, true, true, true, true, false, false, false] S rfl (wanted_off S rfl rfl rfl rfl bc4) rfl rfl (by kernel_rfl) (fun _ _ _ h => h) ?_; clear S a; intro a S
   refine d_off (i := 15) #[true, true, true, true, true, true, true, true, true, true, true, true, true, true, true, true, false, false] S rfl (wanted_off S rfl rfl rfl rfl bc4) rfl rfl (by kernel_rfl) (fun _ _ _ h => h) ?_; clear S a; intro a S
   refine d_off (i := 16) #[true, true, true, true, true, true, true, true, true, true, true, true, true, true, true, true, true, false] S rfl (wanted_off S rfl rfl rfl rfl bc4) rfl rfl (by kernel_rfl) (fun _ _ _ h => h) ?_; clear S a; intro a S
   refine d_pure (i := 17) #[true, true, true, true, true, true, true, true, true, true, true, true, true, true, true, true, true, true] S rfl (p_pick_f rfl bc4 rfl) (wanted_none rfl) rfl rfl (by kernel_rfl) (fun _ _ _ h => h) ?_; clear S a; intro a S
   refine d_done (by kernel_rfl) ?_
   refine e_then ?_
   refine c_cond (b := false) S rfl (fun h => by cases h) (fun _ => ?_)
   refine wp_exit ?_
   refine e_then_exit ?_
   refine e_then_exit ?_
   refine e_in_exit ?_
   refine e_then ?_
   exact ⟨nz, S.only ⟨rfl, trivial⟩, H, by rw [← hR]; simp only [trml, bc4, cond_true, cond_false], ⟨by omega, by omega, h3⟩⟩
def pil1 (D : Int → Int) (n : Nat) (s : ByteArray)  : Bool := false
def pill (D : Int → Int) (n : Nat) (s : ByteArray) : Nat → Int → Bool
 | 0, _ => default
 | fu + 1, i => (bif (decide (i < ((s.size : Nat) : Int))) then (bif (decide (i ≥ ((n : Nat) : Int))) then true else (bif ((D i) != (HHW.bt s i)) then (decide ((D i) < (HHW.bt s i))) else pill D n s fu (i + 1))) else pil1 D n s)
def pil (D : Int → Int) (n : Nat) (s : ByteArray) : Bool := pill D n s ((((s.size : Int) - 0).toNat) + 1) 0
set_option maxHeartbeats 2000000 in
theorem pil_ (wb w0 : World) (B : Nat) (L0 : List (Nat × Obj)) (gd : Nat) (D : Int → Int) (nd dp : Int) (ng tr : Bool) (n c : Nat) (s : ByteArray) (hn : n ≤ 800) (hs : s.size ≤ 1000000) (H : HH B wb w0 ((gd, .cells (decC D nd dp ng tr) 113 (0, 0)) :: L0)) : Calls Tryz.prog 91 #[.slice (some ⟨gd, 0, none⟩) n c, .string s] w0 fun e w' => e = .returned (.bool (pil D n s)) ∧ HH B wb w' ((gd, .cells (decC D nd dp ng tr) 113 (0, 0)) :: L0) ∧ (pil D n s = true → ∃ i : Int, 0 ≤ i ∧ i ≤ n ∧ (∀ j, 0 ≤ j → j < i → D j = HHW.bt s j) ∧ i < s.size ∧ (i = n ∨ (i < n ∧ D i < HHW.bt s i))) ∧ (pil D n s = false → ∃ i : Int, 0 ≤ i ∧ i ≤ n ∧ (∀ j, 0 ≤ j → j < i → D j = HHW.bt s j) ∧ (i = s.size ∨ (i < n ∧ i < s.size ∧ HHW.bt s i < D i))) := by
 generalize hR : pil D n s = R
 refine c_enter (args := [.slice (some ⟨gd, 0, none⟩) n c, .string s]) (k := 30) Tryz.func91 rfl rfl rfl (fun a S => ?_)
 refine wp_seq ?_
 refine c_region ?_
 refine l_mv 1 S rfl ?_; clear S a; intro a S
 refine l_nil ?_
 refine e_then ?_
 refine c_cut (fun a w => SL a 32 [] [(0, .slice (some ⟨gd, 0, none⟩) n c), (1, .string s)] ∧ HH B wb w ((gd, .cells (decC D nd dp ng tr) 113 (0, 0)) :: L0) ∧ pil1 D n s = R ∧ (∃ i : Int, 0 ≤ i ∧ i ≤ n ∧ (∀ j, 0 ≤ j → j < i → D j = HHW.bt s j) ∧ (i = s.size ∨ (i < n ∧ i < s.size ∧ HHW.bt s i < D i)))) ?_ ?_
 ·
  clear S a H hR; rintro a w ⟨S, H, hR, hinv⟩
  refine wp_seq ?_
  refine c_region ?_
  refine l_mv 1 S rfl ?_; clear S a; intro a S
  refine l_nil ?_
  refine e_then ?_
  refine wp_ret ?_
  have eR : R = false := by rw [← hR]; simp only [pil1, cond_true, cond_false]
  clear hR; subst eR
  exact r_ret1 S rfl rfl ⟨rfl, H, (fun h => nomatch h), fun _ => hinv⟩
 ·
  refine wp_seq ?_
  refine c_region ?_
  refine l_mv 1 S rfl ?_; clear S a; intro a S
  refine l_nil ?_
  refine e_then ?_
  refine wp_block ?_
  refine c_loop (σ := Nat × Int) (fun s_ a w => match s_ with | (k_, i) => SL a 32 [] [(0, .slice (some ⟨gd, 0, none⟩) n c), (1, .string s), (5, .int .i64 i)] ∧ HH B wb w ((gd, .cells (decC D nd dp ng tr) 113 (0, 0)) :: L0) ∧ (pill D n s k_ i = R ∧ ((s.size : Int) - i).toNat < k_ ∧ (0 ≤ i ∧ i ≤ n ∧ i ≤ s.size ∧ (∀ j, 0 ≤ j → j < i → D j = HHW.bt s j)))) (fun s_ => s_.1) ((((s.size : Int) - 0).toNat) + 1, 0) ⟨S.only ⟨rfl, rfl, rfl, trivial⟩, H, by rw [← hR]; simp only [pil, cond_true, cond_false], by omega, ⟨by omega, by omega, by omega, fun j a b => by omega⟩⟩ ?_
  clear S a H hR; rintro ⟨fu, i⟩ a w ⟨S, H, hR, hk, hinv⟩
  obtain ⟨fu, rfl⟩ : ∃ j, fu = j + 1 := ⟨fu - 1, by omega⟩
  obtain ⟨h1, h2, h3, h4⟩ := hinv
  refine wp_seq ?_
  refine wp_seq ?_
  refine c_region ?_
  refine l_mv 2 S rfl ?_; clear S a; intro a S
  refine l_pure S (p_lens Tryz.underlying9 rfl) rfl rfl rfl ?_; clear S a; intro a S
  refine l_pure S (p_lss rfl rfl) rfl rfl rfl ?_; clear S a; intro a S
  refine l_nil ?_
  refine e_then ?_
  refine c_cond S rfl (fun bc4 => ?_) (fun bc4 => ?_)
  ·
   have c4 := bc4
   have c4 := of_decide_eq_true c4
   refine wp_skip ?_
   refine e_then ?_
   refine wp_seq ?_
   refine wp_block ?_
   refine wp_seq ?_
   refine wp_seq ?_
   refine c_region ?_
   refine l_mv 2 S rfl ?_; clear S a; intro a S
   refine l_pure S (p_len Tryz.underlying30 rfl) rfl rfl rfl ?_; clear S a; intro a S
   refine l_pure S (p_geq rfl rfl) rfl rfl rfl ?_; clear S a; intro a S
   refine l_nil ?_
   refine e_then ?_
   refine c_cond S rfl (fun bc6 => ?_) (fun bc6 => ?_)
   ·
    have c6 := bc6
    have c6 := of_decide_eq_true c6
    refine wp_seq ?_
    refine c_region ?_
    refine l_mv 1 S rfl ?_; clear S a; intro a S
    refine l_nil ?_
    refine e_then ?_
    refine wp_ret ?_
    refine e_then_ret ?_
    refine e_in_ret ?_
    refine e_then_ret ?_
    refine e_then_ret ?_
    refine e_in_ret ?_
    refine e_then_ret ?_
    have eR : R = true := by rw [← hR]; simp only [pill, bc4, bc6, cond_true, cond_false]
    clear hR; subst eR
    exact r_ret1 S rfl rfl ⟨rfl, H, (fun _ => ⟨i, by omega, by omega, h4, by omega, .inl (by omega)⟩), (fun h => nomatch h)⟩
   ·
    have c6 := bc6
    have c6 := of_decide_eq_false c6
    refine wp_skip ?_
    refine e_then ?_
    refine wp_seq ?_
    refine d_start (id := 6) [] 8 #[false, false, false, false, false, false, false, false] H rfl rfl rfl (fun w H => ?_)
    refine d_mv [0, 1, 4, 5] #[true, true, false, false, true, true, false, false] S rfl (by kernel_rfl) (fun _ _ _ _ _ h => h) ?_; clear S a; intro a S
    refine d_pure (i := 2) #[true, true, true, false, true, true, false, false] S rfl (p_indexAddr rfl rfl (fun w => ia_slice Tryz.underlying30 sz5 (by omega) (by omega))) (wanted_none rfl) rfl rfl (by kernel_rfl) (fun _ _ _ h => h) ?_; clear S a; intro a S
    refine d_read (i := 3) #[true, true, true, true, true, true, false, false] S H rfl (r_load rfl List.mem_cons_self (dec_at (X := i) (by omega) (by omega)) (fun w hc => ld1 ag5 hc)) (wanted_none rfl) rfl rfl (by kernel_rfl) (fun _ _ _ h => h) ?_; clear S a; intro a S
    refine d_pure (i := 6) #[true, true, true, true, true, true, true, false] S rfl (p_index rfl rfl (fun w => ix_string Tryz.underlying9 (by omega) (by omega))) (wanted_none rfl) rfl rfl (by kernel_rfl) (fun _ _ _ h => h) ?_; clear S a; intro a S
    have := bt_rng s i
    refine d_pure (i := 7) #[true, true, true, true, true, true, true, true] S rfl (p_neq rfl rfl) (wanted_none rfl) rfl rfl (by kernel_rfl) (fun _ _ _ h => h) ?_; clear S a; intro a S
    refine d_done (by kernel_rfl) ?_
    refine e_then ?_
    refine c_cond S rfl (fun bc9 => ?_) (fun bc9 => ?_)
    ·
     have c9 := bc9
     have c9 := bne_iff_ne.1 c9
     refine wp_seq ?_
     refine d_start (id := 7) [] 9 #[false, false, false, false, false, false, false, false, false] H rfl rfl rfl (fun w H => ?_)
     refine d_mv [0, 1, 4, 5] #[true, true, false, false, true, true, false, false, false] S rfl (by kernel_rfl) (fun _ _ _ _ _ h => h) ?_; clear S a; intro a S
     refine d_pure (i := 2) #[true, true, true, false, true, true, false, false, false] S rfl (p_indexAddr rfl rfl (fun w => ia_slice Tryz.underlying30 sz5 (by omega) (by omega))) (wanted_none rfl) rfl rfl (by kernel_rfl) (fun _ _ _ h => h) ?_; clear S a; intro a S
     refine d_read (i := 3) #[true, true, true, true, true, true, false, false, false] S H rfl (r_load rfl List.mem_cons_self (dec_at (X := i) (by omega) (by omega)) (fun w hc => ld1 ag5 hc)) (wanted_none rfl) rfl rfl (by kernel_rfl) (fun _ _ _ h => h) ?_; clear S a; intro a S
     refine d_pure (i := 6) #[true, true, true, true, true, true, true, false, false] S rfl (p_index rfl rfl (fun w => ix_string Tryz.underlying9 (by omega) (by omega))) (wanted_none rfl) rfl rfl (by kernel_rfl) (fun _ _ _ h => h) ?_; clear S a; intro a S
     have := bt_rng s i
     refine d_pure (i := 7) #[true, true, true, true, true, true, true, true, false] S rfl (p_lss rfl rfl) (wanted_none rfl) rfl rfl (by kernel_rfl) (fun _ _ _ h => h) ?_; clear S a; intro a S
     refine d_mv [8] #[true, true, true, true, true, true, true, true, true] S rfl (by kernel_rfl) (fun _ _ _ _ _ h => h) ?_; clear S a; intro a S
     refine d_done (by kernel_rfl) ?_
     refine e_then ?_
     refine wp_ret ?_
     refine e_in_ret ?_
     refine e_then_ret ?_
     refine e_then_ret ?_
     refine e_in_ret ?_
     refine e_then_ret ?_
     have eR : R = (decide ((D i) < (HHW.bt s i))) := by rw [← hR]; simp only [pill, bc4, bc6, bc9, cond_true, cond_false]
     clear hR; subst eR
     exact r_ret1 S rfl rfl ⟨rfl, H, fun h => ⟨i, by omega, by omega, h4, by omega, .inr ⟨by omega, of_decide_eq_true h⟩⟩, fun h => ⟨i, by omega, by omega, h4, .inr ⟨by omega, by omega, by have := of_decide_eq_false h; omega⟩⟩⟩
    ·
     have c9 := bc9
     have c9 := bne_eq_false_iff_eq.1 c9
     refine wp_skip ?_
     refine e_in 1 ?_
     refine e_then ?_
     refine c_region ?_
     refine l_mv 1 S rfl ?_; clear S a; intro a S
     refine l_pure S (p_add (r := (i + 1)) rfl rfl (IntWalk.i64_in _ (by omega))) rfl rfl rfl ?_; clear S a; intro a S
     refine l_mv 1 S rfl ?_; clear S a; intro a S
     refine l_nil ?_
     refine e_then ?_
     exact ⟨(fu, (i + 1)), ⟨S.only ⟨rfl, rfl, rfl, trivial⟩, H, by rw [← hR]; simp only [pill, bc4, bc6, bc9, cond_true, cond_false], by omega, ⟨by omega, by omega, by omega, fun j a b => by rcases Int.lt_or_eq_of_le (show j ≤ i by omega) with q | q; exact h4 j a q; rw [q]; exact c9⟩⟩, Nat.lt_succ_self fu⟩
  ·
   have c4 := bc4
   have c4 := of_decide_eq_false c4
   refine wp_exit ?_
   refine e_then_exit ?_
   refine e_then_exit ?_
   refine e_in_exit ?_
   refine e_then ?_
   exact ⟨S.only ⟨rfl, rfl, trivial⟩, H, by rw [← hR]; simp only [pill, bc4, cond_true, cond_false], ⟨i, by omega, by omega, h4, .inl (by omega)⟩⟩
def sru (D : Int → Int) (nd : Int) (tr : Bool) (x : Int) : Bool := (bif (decide (x < 0)) then false else (bif (decide (x ≥ nd)) then false else (bif ((D x) == 53) then (bif ((x + 1) == nd) then (bif tr then true else (bif (decide (x > 0)) then ((Int.tmod ((D (x - 1)) - 48) 2) != 0) else false)) else (decide ((D x) ≥ 53))) else (decide ((D x) ≥ 53)))))
set_option maxHeartbeats 2000000 in
theorem sru_ (wb w0 : World) (B : Nat) (L0 : List (Nat × Obj)) (gd : Nat) (D : Int → Int) (nd dp : Int) (ng tr : Bool) (x : Int) (hx : x ≤ 1000000000) (hn : 0 ≤ nd ∧ nd ≤ 800) (hdig : ∀ i, 0 ≤ i → i < nd → 48 ≤ D i ∧ D i ≤ 57) (H : HH B wb w0 ((gd, .cells (decC D nd dp ng tr) 113 (0, 0)) :: L0)) : Calls Tryz.prog 86 #[.pointer (some ⟨gd, 0, none⟩), .int .i64 x] w0 fun e w' => e = .returned (.bool (sru D nd tr x)) ∧ HH B wb w' ((gd, .cells (decC D nd dp ng tr) 113 (0, 0)) :: L0) := by
 generalize hR : sru D nd tr x = R
 refine c_enter (args := [.pointer (some ⟨gd, 0, none⟩), .int .i64 x]) (k := 54) Tryz.func86 rfl rfl rfl (fun a S => ?_)
 refine wp_seq ?_
 refine c_region ?_
 refine l_mv 1 S rfl ?_; clear S a; intro a S
 refine l_nil ?_
 refine e_then ?_
 refine wp_seq ?_
 refine wp_seq ?_
 refine c_region ?_
 refine l_mv 1 S rfl ?_; clear S a; intro a S
 refine l_pure S (p_lss rfl rfl) rfl rfl rfl ?_; clear S a; intro a S
 refine l_mv 1 S rfl ?_; clear S a; intro a S
 refine l_split (S.of 7 rfl) (fun bc3 => ?_) (fun bc3 => ?_)
 ·
  have c3 := bc3
  have c3 := of_decide_eq_true c3
  refine l_off S rfl rfl rfl rfl bc3 rfl rfl ?_; clear S a; intro a S
  refine l_off S rfl rfl rfl rfl bc3 rfl rfl ?_; clear S a; intro a S
  refine l_off S rfl rfl rfl rfl bc3 rfl rfl ?_; clear S a; intro a S
  refine l_off S rfl rfl rfl rfl bc3 rfl rfl ?_; clear S a; intro a S
  refine l_off S rfl rfl rfl rfl bc3 rfl rfl ?_; clear S a; intro a S
  refine l_off S rfl rfl rfl rfl bc3 rfl rfl ?_; clear S a; intro a S
  refine l_pure S (p_pick_t rfl bc3 rfl) rfl rfl rfl ?_; clear S a; intro a S
  refine l_nil ?_
  refine e_then ?_
  refine c_cond (b := true) S rfl (fun _ => ?_) (fun h => by cases h)
  refine wp_seq ?_
  refine c_region ?_
  refine l_mv 1 S rfl ?_; clear S a; intro a S
  refine l_nil ?_
  refine e_then ?_
  refine wp_ret ?_
  refine e_then_ret ?_
  have eR : R = false := by rw [← hR]; simp only [sru, bc3, cond_true, cond_false]
  clear hR; subst eR
  exact r_ret1 S rfl rfl ⟨rfl, H⟩
 ·
  have c3 := bc3
  have c3 := of_decide_eq_false c3
  refine l_on S rfl rfl rfl rfl bc3 ?_
  refine l_pure S (p_move rfl) rfl rfl rfl ?_; clear S a; intro a S
  refine l_on S rfl rfl rfl rfl bc3 ?_
  refine l_pure S (p_move rfl) rfl rfl rfl ?_; clear S a; intro a S
  refine l_on S rfl rfl rfl rfl bc3 ?_
  refine l_pure S (p_nilCheck rfl) rfl rfl rfl ?_; clear S a; intro a S
  refine l_on S rfl rfl rfl rfl bc3 ?_
  refine l_pure S (p_fieldAddr rfl (fun w => fa113_1 w _ _)) rfl rfl rfl ?_; clear S a; intro a S
  refine l_on S rfl rfl rfl rfl bc3 ?_
  refine l_read S H (r_load rfl List.mem_cons_self (show _ = some (.int .i64 nd) from dec_nd) (fun w hc => ld1 ag3 hc)) rfl rfl rfl ?_; clear S a; intro a S
  refine l_on S rfl rfl rfl rfl bc3 ?_
  refine l_pure S (p_geq rfl rfl) rfl rfl rfl ?_; clear S a; intro a S
  refine l_pure S (p_pick_f rfl bc3 rfl) rfl rfl rfl ?_; clear S a; intro a S
  refine l_nil ?_
  refine e_then ?_
  refine c_cond S rfl (fun bc8 => ?_) (fun bc8 => ?_)
  ·
   have c8 := bc8
   have c8 := of_decide_eq_true c8
   refine wp_seq ?_
   refine c_region ?_
   refine l_mv 1 S rfl ?_; clear S a; intro a S
   refine l_nil ?_
   refine e_then ?_
   refine wp_ret ?_
   refine e_then_ret ?_
   have eR : R = false := by rw [← hR]; simp only [sru, bc3, bc8, cond_true, cond_false]
   clear hR; subst eR
   exact r_ret1 S rfl rfl ⟨rfl, H⟩
  ·
   have c8 := bc8
   have c8 := of_decide_eq_false c8
   refine wp_skip ?_
   refine e_then ?_
   refine wp_seq ?_
   refine wp_seq ?_
   refine c_region ?_
   refine l_mv 3 S rfl ?_; clear S a; intro a S
   refine l_pure S (p_fieldAddr rfl (fun w => fa113_0 w _ _)) rfl rfl rfl ?_; clear S a; intro a S
   refine l_pure S (p_indexAddr rfl rfl (fun w => ia_array Tryz.underlying111 sz5 (by omega) (by omega))) rfl rfl rfl ?_; clear S a; intro a S
   refine l_read S H (r_load rfl List.mem_cons_self (dec_at (X := x) (by omega) (by omega)) (fun w hc => ld1 ag5 hc)) rfl rfl rfl ?_; clear S a; intro a S
   have := hdig x (by omega) (by omega)
   refine l_pure S (p_eql rfl rfl) rfl rfl rfl ?_; clear S a; intro a S
   refine l_mv 1 S rfl ?_; clear S a; intro a S
   refine l_split (S.of 22 rfl) (fun bc11 => ?_) (fun bc11 => ?_)
   ·
    have c11 := bc11
    have c11 := eq_of_beq c11
    refine l_on S rfl rfl rfl rfl bc11 ?_
    refine l_pure S (p_move rfl) rfl rfl rfl ?_; clear S a; intro a S
    refine l_on S rfl rfl rfl rfl bc11 ?_
    refine l_pure S (p_add (r := (x + 1)) rfl rfl (IntWalk.i64_in _ (by omega))) rfl rfl rfl ?_; clear S a; intro a S
    refine l_on S rfl rfl rfl rfl bc11 ?_
    refine l_pure S (p_move rfl) rfl rfl rfl ?_; clear S a; intro a S
    refine l_on S rfl rfl rfl rfl bc11 ?_
    refine l_pure S (p_nilCheck rfl) rfl rfl rfl ?_; clear S a; intro a S
    refine l_on S rfl rfl rfl rfl bc11 ?_
    refine l_pure S (p_fieldAddr rfl (fun w => fa113_1 w _ _)) rfl rfl rfl ?_; clear S a; intro a S
    refine l_on S rfl rfl rfl rfl bc11 ?_
    refine l_read S H (r_load rfl List.mem_cons_self (show _ = some (.int .i64 nd) from dec_nd) (fun w hc => ld1 ag3 hc)) rfl rfl rfl ?_; clear S a; intro a S
    refine l_on S rfl rfl rfl rfl bc11 ?_
    refine l_pure S (p_eql rfl rfl) rfl rfl rfl ?_; clear S a; intro a S
    refine l_pure S (p_pick_t rfl bc11 rfl) rfl rfl rfl ?_; clear S a; intro a S
    refine l_nil ?_
    refine e_then ?_
    refine c_cond S rfl (fun bc13 => ?_) (fun bc13 => ?_)
    ·
     have c13 := bc13
     have c13 := eq_of_beq c13
     refine wp_seq ?_
     refine wp_seq ?_
     refine c_region ?_
     refine l_mv 2 S rfl ?_; clear S a; intro a S
     refine l_pure S (p_fieldAddr rfl (fun w => fa113_4 w _ _)) rfl rfl rfl ?_; clear S a; intro a S
     refine l_read S H (r_load rfl List.mem_cons_self (show _ = some (.bool tr) from dec_tr) (fun w hc => ld1 ag4 hc)) rfl rfl rfl ?_; clear S a; intro a S
     refine l_nil ?_
     refine e_then ?_
     refine c_cond S rfl (fun bc15 => ?_) (fun bc15 => ?_)
     ·
      have c15 := bc15
      refine wp_seq ?_
      refine c_region ?_
      refine l_mv 1 S rfl ?_; clear S a; intro a S
      refine l_nil ?_
      refine e_then ?_
      refine wp_ret ?_
      refine e_then_ret ?_
      refine e_then_ret ?_
      have eR : R = true := by rw [← hR]; simp only [sru, bc3, bc8, bc11, bc13, bc15, cond_true, cond_false]
      clear hR; subst eR
      exact r_ret1 S rfl rfl ⟨rfl, H⟩
     ·
      have c15 := bc15
      refine wp_skip ?_
      refine e_then ?_
      refine wp_seq ?_
      refine c_region ?_
      refine l_mv 1 S rfl ?_; clear S a; intro a S
      refine l_pure S (p_gtr rfl rfl) rfl rfl rfl ?_; clear S a; intro a S
      refine l_mv 1 S rfl ?_; clear S a; intro a S
      refine l_split (S.of 37 rfl) (fun bc18 => ?_) (fun bc18 => ?_)
      ·
       have c18 := bc18
       have c18 := of_decide_eq_true c18
       refine l_on S rfl rfl rfl rfl bc18 ?_
       refine l_pure S (p_move rfl) rfl rfl rfl ?_; clear S a; intro a S
       refine l_on S rfl rfl rfl rfl bc18 ?_
       refine l_pure S (p_move rfl) rfl rfl rfl ?_; clear S a; intro a S
       refine l_on S rfl rfl rfl rfl bc18 ?_
       refine l_pure S (p_sub (r := (x - 1)) rfl rfl (IntWalk.i64_in _ (by omega))) rfl rfl rfl ?_; clear S a; intro a S
       refine l_on S rfl rfl rfl rfl bc18 ?_
       refine l_pure S (p_nilCheck rfl) rfl rfl rfl ?_; clear S a; intro a S
       refine l_on S rfl rfl rfl rfl bc18 ?_
       refine l_pure S (p_fieldAddr rfl (fun w => fa113_0 w _ _)) rfl rfl rfl ?_; clear S a; intro a S
       refine l_on S rfl rfl rfl rfl bc18 ?_
       refine l_pure S (p_indexAddr rfl rfl (fun w => ia_array Tryz.underlying111 sz5 (by omega) (by omega))) rfl rfl rfl ?_; clear S a; intro a S
       refine l_on S rfl rfl rfl rfl bc18 ?_
       refine l_read S H (r_load rfl List.mem_cons_self (dec_at (X := (x - 1)) (by omega) (by omega)) (fun w hc => ld1 ag5 hc)) rfl rfl rfl ?_; clear S a; intro a S
       have := hdig (x - 1) (by omega) (by omega)
       refine l_on S rfl rfl rfl rfl bc18 ?_
       refine l_pure S (p_sub (r := ((D (x - 1)) - 48)) rfl rfl (IntWalk.u8_in _ (by omega))) rfl rfl rfl ?_; clear S a; intro a S
       refine l_on S rfl rfl rfl rfl bc18 ?_
       refine l_pure S (p_rem rfl rfl (by omega) rfl) rfl rfl rfl ?_; clear S a; intro a S
       refine l_on S rfl rfl rfl rfl bc18 ?_
       refine l_pure S (p_neq rfl rfl) rfl rfl rfl ?_; clear S a; intro a S
       refine l_pure S (p_pick_t rfl bc18 rfl) rfl rfl rfl ?_; clear S a; intro a S
       refine l_mv 1 S rfl ?_; clear S a; intro a S
       refine l_nil ?_
       refine e_then ?_
       refine wp_ret ?_
       refine e_then_ret ?_
       have eR : R = ((Int.tmod ((D (x - 1)) - 48) 2) != 0) := by rw [← hR]; simp only [sru, bc3, bc8, bc11, bc13, bc15, bc18, cond_true, cond_false]
       clear hR; subst eR
       exact r_ret1 S rfl rfl ⟨rfl, H⟩
      ·
       have c18 := bc18
       have c18 := of_decide_eq_false c18
       refine l_off S rfl rfl rfl rfl bc18 rfl rfl ?_; clear S a; intro a S
       refine l_off S rfl rfl rfl rfl bc18 rfl rfl ?_; clear S a; intro a S
       refine l_off S rfl rfl rfl rfl bc18 rfl rfl ?_; clear S a; intro a S
       refine l_off S rfl rfl rfl rfl bc18 rfl rfl ?_; clear S a; intro a S
       refine l_off S rfl rfl rfl rfl bc18 rfl rfl ?_; clear S a; intro a S
       refine l_off S rfl rfl rfl rfl bc18 rfl rfl ?_; clear S a; intro a S
       refine l_off S rfl rfl rfl rfl bc18 rfl rfl ?_; clear S a; intro a S
       refine l_off S rfl rfl rfl rfl bc18 rfl rfl ?_; clear S a; intro a S
       refine l_off S rfl rfl rfl rfl bc18 rfl rfl ?_; clear S a; intro a S
       refine l_off S rfl rfl rfl rfl bc18 rfl rfl ?_; clear S a; intro a S
       refine l_pure S (p_pick_f rfl bc18 rfl) rfl rfl rfl ?_; clear S a; intro a S
       refine l_mv 1 S rfl ?_; clear S a; intro a S
       refine l_nil ?_
       refine e_then ?_
       refine wp_ret ?_
       refine e_then_ret ?_
       have eR : R = false := by rw [← hR]; simp only [sru, bc3, bc8, bc11, bc13, bc15, bc18, cond_true, cond_false]
       clear hR; subst eR
       exact r_ret1 S rfl rfl ⟨rfl, H⟩
    ·
     have c13 := bc13
     have c13 := ne_of_beq_false c13
     refine wp_skip ?_
     refine e_then ?_
     refine wp_seq ?_
     refine c_region ?_
     refine l_mv 3 S rfl ?_; clear S a; intro a S
     refine l_pure S (p_fieldAddr rfl (fun w => fa113_0 w _ _)) rfl rfl rfl ?_; clear S a; intro a S
     refine l_pure S (p_indexAddr rfl rfl (fun w => ia_array Tryz.underlying111 sz5 (by omega) (by omega))) rfl rfl rfl ?_; clear S a; intro a S
     refine l_read S H (r_load rfl List.mem_cons_self (dec_at (X := x) (by omega) (by omega)) (fun w hc => ld1 ag5 hc)) rfl rfl rfl ?_; clear S a; intro a S
     have := hdig x (by omega) (by omega)
     refine l_pure S (p_geq rfl rfl) rfl rfl rfl ?_; clear S a; intro a S
     refine l_mv 1 S rfl ?_; clear S a; intro a S
     refine l_nil ?_
     refine e_then ?_
     refine wp_ret ?_
     have eR : R = (decide ((D x) ≥ 53)) := by rw [← hR]; simp only [sru, bc3, bc8, bc11, bc13, cond_true, cond_false]
     clear hR; subst eR
     exact r_ret1 S rfl rfl ⟨rfl, H⟩
   ·
    have c11 := bc11
    have c11 := ne_of_beq_false c11
    refine l_off S rfl rfl rfl rfl bc11 rfl rfl ?_; clear S a; intro a S
    refine l_off S rfl rfl rfl rfl bc11 rfl rfl ?_; clear S a; intro a S
    refine l_off S rfl rfl rfl rfl bc11 rfl rfl ?_; clear S a; intro a S
    refine l_off S rfl rfl rfl rfl bc11 rfl rfl ?_; clear S a; intro a S
    refine l_off S rfl rfl rfl rfl bc11 rfl rfl ?_; clear S a; intro a S
    refine l_off S rfl rfl rfl rfl bc11 rfl rfl ?_; clear S a; intro a S
    refine l_off S rfl rfl rfl rfl bc11 rfl rfl ?_; clear S a; intro a S
    refine l_pure S (p_pick_f rfl bc11 rfl) rfl rfl rfl ?_; clear S a; intro a S
    refine l_nil ?_
    refine e_then ?_
    refine c_cond (b := false) S rfl (fun h => by cases h) (fun _ => ?_)
    refine wp_skip ?_
    refine e_then ?_
    refine wp_seq ?_
    refine c_region ?_
    refine l_mv 3 S rfl ?_; clear S a; intro a S
    refine l_pure S (p_fieldAddr rfl (fun w => fa113_0 w _ _)) rfl rfl rfl ?_; clear S a; intro a S
    refine l_pure S (p_indexAddr rfl rfl (fun w => ia_array Tryz.underlying111 sz5 (by omega) (by omega))) rfl rfl rfl ?_; clear S a; intro a S
    refine l_read S H (r_load rfl List.mem_cons_self (dec_at (X := x) (by omega) (by omega)) (fun w hc => ld1 ag5 hc)) rfl rfl rfl ?_; clear S a; intro a S
    have := hdig x (by omega) (by omega)
    refine l_pure S (p_geq rfl rfl) rfl rfl rfl ?_; clear S a; intro a S
    refine l_mv 1 S rfl ?_; clear S a; intro a S
    refine l_nil ?_
    refine e_then ?_
    refine wp_ret ?_
    have eR : R = (decide ((D x) ≥ 53)) := by rw [← hR]; simp only [sru, bc3, bc8, bc11, cond_true, cond_false]
    clear hR; subst eR
    exact r_ret1 S rfl rfl ⟨rfl, H⟩
def rin2 (D : Int → Int) (nd dp : Int) (tr : Bool) (i : Int) (n : BitVec 64) : BitVec 64 := (bif (sru D nd tr dp) then (n + 1#64) else n)
def rinb (D : Int → Int) (nd dp : Int) (tr : Bool) : Nat → Int → (BitVec 64) → BitVec 64
 | 0, _, _ => default
 | fu + 1, i, n => (bif (decide (i < dp)) then rinb D nd dp tr fu (i + 1) (n * 10#64) else rin2 D nd dp tr i n)
def rin1 (D : Int → Int) (nd dp : Int) (tr : Bool) (i : Int) (n : BitVec 64) : BitVec 64 := rinb D nd dp tr (((dp - i).toNat) + 1) i n
def rina (D : Int → Int) (nd dp : Int) (tr : Bool) : Nat → Int → (BitVec 64) → BitVec 64
 | 0, _, _ => default
 | fu + 1, i, n => (bif (decide (i < dp)) then (bif (decide (i < nd)) then rina D nd dp tr fu (i + 1) ((n * 10#64) + (BitVec.ofInt 64 ((D i) - 48))) else rin1 D nd dp tr i n) else rin1 D nd dp tr i n)
def rin (D : Int → Int) (nd dp : Int) (tr : Bool) : BitVec 64 := (bif (decide (dp > 20)) then (18446744073709551615#64) else rina D nd dp tr (((dp - 0).toNat) + 1) 0 (0#64))
set_option maxHeartbeats 2000000 in
theorem rin_ (wb w0 : World) (B : Nat) (L0 : List (Nat × Obj)) (gd : Nat) (D : Int → Int) (nd dp : Int) (ng tr : Bool) (hn : 0 ≤ nd ∧ nd ≤ 800) (hp : dp ≤ 1000000000) (hdig : ∀ i, 0 ≤ i → i < nd → 48 ≤ D i ∧ D i ≤ 57) (H : HH B wb w0 ((gd, .cells (decC D nd dp ng tr) 113 (0, 0)) :: L0)) : Calls Tryz.prog 80 #[.pointer (some ⟨gd, 0, none⟩)] w0 fun e w' => e = .returned (.int .u64 ((rin D nd dp tr).toNat : Int)) ∧ HH B wb w' ((gd, .cells (decC D nd dp ng tr) 113 (0, 0)) :: L0) := by
 generalize hR : rin D nd dp tr = R
 refine c_enter (args := [.pointer (some ⟨gd, 0, none⟩)]) (k := 55) Tryz.func80 rfl rfl rfl (fun a S => ?_)
 refine wp_seq ?_
 refine c_region ?_
 refine l_mv 1 S rfl ?_; clear S a; intro a S
 refine l_nil ?_
 refine e_then ?_
 refine wp_seq ?_
 refine wp_seq ?_
 refine c_region ?_
 refine l_mv 2 S rfl ?_; clear S a; intro a S
 refine l_pure S (p_fieldAddr rfl (fun w => fa113_2 w _ _)) rfl rfl rfl ?_; clear S a; intro a S
 refine l_read S H (r_load rfl List.mem_cons_self (show _ = some (.int .i64 dp) from dec_dp) (fun w hc => ld1 ag3 hc)) rfl rfl rfl ?_; clear S a; intro a S
 refine l_pure S (p_gtr rfl rfl) rfl rfl rfl ?_; clear S a; intro a S
 refine l_nil ?_
 refine e_then ?_
 refine c_cond S rfl (fun bc2 => ?_) (fun bc2 => ?_)
 ·
  have c2 := bc2
  have c2 := of_decide_eq_true c2
  refine wp_seq ?_
  refine c_region ?_
  refine l_mv 1 S rfl ?_; clear S a; intro a S
  refine l_nil ?_
  refine e_then ?_
  refine wp_ret ?_
  refine e_then_ret ?_
  have eR : R = (18446744073709551615#64) := by rw [← hR]; simp only [rin, bc2, cond_true, cond_false]
  clear hR; subst eR
  exact r_ret1 S rfl rfl ⟨rfl, H⟩
 ·
  have c2 := bc2
  have c2 := of_decide_eq_false c2
  refine wp_skip ?_
  refine e_then ?_
  refine wp_seq ?_
  refine c_region ?_
  refine l_mv 1 S rfl ?_; clear S a; intro a S
  refine l_nil ?_
  refine e_then ?_
  refine wp_seq ?_
  refine c_region ?_
  refine l_mv 1 S rfl ?_; clear S a; intro a S
  refine l_nil ?_
  refine e_then ?_
  refine c_cut (fun a w => ∃ i : Int, ∃ n : BitVec 64, SL a 56 [] [(0, .pointer (some ⟨gd, 0, none⟩)), (3, .int .i64 i), (4, .int .u64 (n.toNat : Int))] ∧ HH B wb w ((gd, .cells (decC D nd dp ng tr) 113 (0, 0)) :: L0) ∧ rin1 D nd dp tr i n = R ∧ (0 ≤ i ∧ (i ≤ dp ∨ i ≤ 0))) ?_ ?_
  ·
   clear S a H hR; rintro a w ⟨i, n, S, H, hR, hinv⟩
   have hi := hinv
   refine c_cut (fun a w => ∃ i : Int, ∃ n : BitVec 64, SL a 56 [] [(0, .pointer (some ⟨gd, 0, none⟩)), (3, .int .i64 i), (4, .int .u64 (n.toNat : Int))] ∧ HH B wb w ((gd, .cells (decC D nd dp ng tr) 113 (0, 0)) :: L0) ∧ rin2 D nd dp tr i n = R ∧ (0 ≤ i ∧ (i ≤ dp ∨ i ≤ 0))) ?_ ?_
   ·
    clear S a H hR; rintro a w ⟨i, n, S, H, hR, hinv⟩
    have hi := hinv
    refine wp_seq ?_
    refine wp_seq ?_
    refine c_region ?_
    refine l_mv 3 S rfl ?_; clear S a; intro a S
    refine l_pure S (p_fieldAddr rfl (fun w => fa113_2 w _ _)) rfl rfl rfl ?_; clear S a; intro a S
    refine l_read S H (r_load rfl List.mem_cons_self (show _ = some (.int .i64 dp) from dec_dp) (fun w hc => ld1 ag3 hc)) rfl rfl rfl ?_; clear S a; intro a S
    have hcon := sru_ wb _ B L0 gd D nd dp ng tr dp (by omega) hn hdig H
    refine l_call S rfl rfl Tryz.func86 rfl rfl (hcon) rfl rfl rfl ?_
    rintro e w ⟨rfl, hH⟩
    refine ⟨_, rfl, ?_⟩; clear S a; intro a S
    clear H hcon; have H := hH; clear hH
    refine l_nil ?_
    refine e_then ?_
    refine c_cond S rfl (fun bc4 => ?_) (fun bc4 => ?_)
    ·
     have c4 := bc4
     refine c_region ?_
     refine l_mv 1 S rfl ?_; clear S a; intro a S
     refine l_pure S (p_add rfl rfl (add64 n 1#64)) rfl rfl rfl ?_; clear S a; intro a S
     refine l_mv 1 S rfl ?_; clear S a; intro a S
     refine l_nil ?_
     refine e_then ?_
     refine wp_seq ?_
     refine c_region ?_
     refine l_mv 2 S rfl ?_; clear S a; intro a S
     refine l_nil ?_
     refine e_then ?_
     refine wp_ret ?_
     have eR : R = (n + 1#64) := by rw [← hR]; simp only [rin2, bc4, cond_true, cond_false]
     clear hR; subst eR
     exact r_ret1 S rfl rfl ⟨rfl, H⟩
    ·
     have c4 := bc4
     refine wp_skip ?_
     refine e_then ?_
     refine wp_seq ?_
     refine c_region ?_
     refine l_mv 2 S rfl ?_; clear S a; intro a S
     refine l_nil ?_
     refine e_then ?_
     refine wp_ret ?_
     have eR : R = n := by rw [← hR]; simp only [rin2, bc4, cond_true, cond_false]
     clear hR; subst eR
     exact r_ret1 S rfl rfl ⟨rfl, H⟩
   ·
    refine wp_block ?_
    refine c_loop (σ := Nat × Int × (BitVec 64)) (fun s_ a w => match s_ with | (k_, i, n) => SL a 56 [] [(0, .pointer (some ⟨gd, 0, none⟩)), (3, .int .i64 i), (4, .int .u64 (n.toNat : Int))] ∧ HH B wb w ((gd, .cells (decC D nd dp ng tr) 113 (0, 0)) :: L0) ∧ (rinb D nd dp tr k_ i n = R ∧ (dp - i).toNat < k_ ∧ (0 ≤ i ∧ (i ≤ dp ∨ i ≤ 0)))) (fun s_ => s_.1) (((dp - i).toNat) + 1, i, n) ⟨S.only ⟨rfl, rfl, rfl, trivial⟩, H, by rw [← hR]; simp only [rin1, cond_true, cond_false], by omega, by omega⟩ ?_
    clear S a H hR; rintro ⟨fu, i, n⟩ a w ⟨S, H, hR, hk, hinv⟩
    obtain ⟨fu, rfl⟩ : ∃ j, fu = j + 1 := ⟨fu - 1, by omega⟩
    have hi := hinv
    refine wp_seq ?_
    refine wp_seq ?_
    refine c_region ?_
    refine l_mv 3 S rfl ?_; clear S a; intro a S
    refine l_pure S (p_fieldAddr rfl (fun w => fa113_2 w _ _)) rfl rfl rfl ?_; clear S a; intro a S
    refine l_read S H (r_load rfl List.mem_cons_self (show _ = some (.int .i64 dp) from dec_dp) (fun w hc => ld1 ag3 hc)) rfl rfl rfl ?_; clear S a; intro a S
    refine l_pure S (p_lss rfl rfl) rfl rfl rfl ?_; clear S a; intro a S
    refine l_nil ?_
    refine e_then ?_
    refine c_cond S rfl (fun bc6 => ?_) (fun bc6 => ?_)
    ·
     have c6 := bc6
     have c6 := of_decide_eq_true c6
     refine wp_skip ?_
     refine e_then ?_
     refine wp_seq ?_
     refine wp_block ?_
     refine c_region ?_
     refine l_mv 1 S rfl ?_; clear S a; intro a S
     refine l_pure S (p_mul rfl rfl (mul64 n 10#64)) rfl rfl rfl ?_; clear S a; intro a S
     refine l_mv 1 S rfl ?_; clear S a; intro a S
     refine l_nil ?_
     refine e_in 3 ?_
     refine e_then ?_
     refine c_region ?_
     refine l_mv 1 S rfl ?_; clear S a; intro a S
     refine l_pure S (p_add (r := (i + 1)) rfl rfl (IntWalk.i64_in _ (by omega))) rfl rfl rfl ?_; clear S a; intro a S
     refine l_mv 1 S rfl ?_; clear S a; intro a S
     refine l_nil ?_
     refine e_then ?_
     exact ⟨(fu, (i + 1), (n * 10#64)), ⟨S.only ⟨rfl, rfl, rfl, trivial⟩, H, by rw [← hR]; simp only [rinb, bc6, cond_true, cond_false], by omega, by omega⟩, Nat.lt_succ_self fu⟩
    ·
     have c6 := bc6
     have c6 := of_decide_eq_false c6
     refine wp_exit ?_
     refine e_then_exit ?_
     refine e_then_exit ?_
     refine e_in_exit ?_
     refine e_then ?_
     exact ⟨i, n, S.only ⟨rfl, rfl, rfl, trivial⟩, H, by rw [← hR]; simp only [rinb, bc6, cond_true, cond_false], by omega⟩
  ·
   refine wp_seq ?_
   refine c_region ?_
   refine l_mv 1 S rfl ?_; clear S a; intro a S
   refine l_nil ?_
   refine e_then ?_
   refine wp_block ?_
   refine c_loop (σ := Nat × Int × (BitVec 64)) (fun s_ a w => match s_ with | (k_, i, n) => SL a 56 [] [(0, .pointer (some ⟨gd, 0, none⟩)), (3, .int .i64 i), (4, .int .u64 (n.toNat : Int))] ∧ HH B wb w ((gd, .cells (decC D nd dp ng tr) 113 (0, 0)) :: L0) ∧ (rina D nd dp tr k_ i n = R ∧ (dp - i).toNat < k_ ∧ (0 ≤ i ∧ (i ≤ dp ∨ i ≤ 0)))) (fun s_ => s_.1) (((dp - 0).toNat) + 1, 0, (0#64)) ⟨S.only ⟨rfl, rfl, rfl, trivial⟩, H, by rw [← hR]; simp only [rin, bc2, cond_true, cond_false], by omega, by omega⟩ ?_
   clear S a H hR; rintro ⟨fu, i, n⟩ a w ⟨S, H, hR, hk, hinv⟩
   obtain ⟨fu, rfl⟩ : ∃ j, fu = j + 1 := ⟨fu - 1, by omega⟩
   have hi := hinv
   refine wp_seq ?_
   refine wp_seq ?_
   refine c_region ?_
   refine l_mv 3 S rfl ?_; clear S a; intro a S
   refine l_pure S (p_fieldAddr rfl (fun w => fa113_2 w _ _)) rfl rfl rfl ?_; clear S a; intro a S
   refine l_read S H (r_load rfl List.mem_cons_self (show _ = some (.int .i64 dp) from dec_dp) (fun w hc => ld1 ag3 hc)) rfl rfl rfl ?_; clear S a; intro a S
   refine l_pure S (p_lss rfl rfl) rfl rfl rfl ?_; clear S a; intro a S
   refine l_mv 1 S rfl ?_; clear S a; intro a S
   refine l_split (S.of 16 rfl) (fun bc8 => ?_) (fun bc8 => ?_)
   ·
    have c8 := bc8
    have c8 := of_decide_eq_true c8
    refine l_on S rfl rfl rfl rfl bc8 ?_
    refine l_pure S (p_move rfl) rfl rfl rfl ?_; clear S a; intro a S
    refine l_on S rfl rfl rfl rfl bc8 ?_
    refine l_pure S (p_move rfl) rfl rfl rfl ?_; clear S a; intro a S
    refine l_on S rfl rfl rfl rfl bc8 ?_
    refine l_pure S (p_nilCheck rfl) rfl rfl rfl ?_; clear S a; intro a S
    refine l_on S rfl rfl rfl rfl bc8 ?_
    refine l_pure S (p_fieldAddr rfl (fun w => fa113_1 w _ _)) rfl rfl rfl ?_; clear S a; intro a S
    refine l_on S rfl rfl rfl rfl bc8 ?_
    refine l_read S H (r_load rfl List.mem_cons_self (show _ = some (.int .i64 nd) from dec_nd) (fun w hc => ld1 ag3 hc)) rfl rfl rfl ?_; clear S a; intro a S
    refine l_on S rfl rfl rfl rfl bc8 ?_
    refine l_pure S (p_lss rfl rfl) rfl rfl rfl ?_; clear S a; intro a S
    refine l_pure S (p_pick_t rfl bc8 rfl) rfl rfl rfl ?_; clear S a; intro a S
    refine l_nil ?_
    refine e_then ?_
    refine c_cond S rfl (fun bc10 => ?_) (fun bc10 => ?_)
    ·
     have c10 := bc10
     have c10 := of_decide_eq_true c10
     refine wp_skip ?_
     refine e_then ?_
     refine wp_seq ?_
     refine wp_block ?_
     refine c_region ?_
     refine l_mv 1 S rfl ?_; clear S a; intro a S
     refine l_pure S (p_mul rfl rfl (mul64 n 10#64)) rfl rfl rfl ?_; clear S a; intro a S
     refine l_mv 3 S rfl ?_; clear S a; intro a S
     refine l_pure S (p_fieldAddr rfl (fun w => fa113_0 w _ _)) rfl rfl rfl ?_; clear S a; intro a S
     refine l_pure S (p_indexAddr rfl rfl (fun w => ia_array Tryz.underlying111 sz5 (by omega) (by omega))) rfl rfl rfl ?_; clear S a; intro a S
     refine l_read S H (r_load rfl List.mem_cons_self (dec_at (X := i) (by omega) (by omega)) (fun w hc => ld1 ag5 hc)) rfl rfl rfl ?_; clear S a; intro a S
     have := hdig i (by omega) (by omega)
     refine l_pure S (p_sub (r := ((D i) - 48)) rfl rfl (IntWalk.u8_in _ (by omega))) rfl rfl rfl ?_; clear S a; intro a S
     refine l_pure S (p_conv rfl (fun w => cv_int (Tryz.underlying5) (Tryz.underlying22) (fz.ofI64 ((D i) - 48)))) rfl rfl rfl ?_; clear S a; intro a S
     refine l_pure S (p_add rfl rfl (add64 (n * 10#64) (BitVec.ofInt 64 ((D i) - 48)))) rfl rfl rfl ?_; clear S a; intro a S
     refine l_mv 1 S rfl ?_; clear S a; intro a S
     refine l_nil ?_
     refine e_in 1 ?_
     refine e_then ?_
     refine c_region ?_
     refine l_mv 1 S rfl ?_; clear S a; intro a S
     refine l_pure S (p_add (r := (i + 1)) rfl rfl (IntWalk.i64_in _ (by omega))) rfl rfl rfl ?_; clear S a; intro a S
     refine l_mv 1 S rfl ?_; clear S a; intro a S
     refine l_nil ?_
     refine e_then ?_
     exact ⟨(fu, (i + 1), ((n * 10#64) + (BitVec.ofInt 64 ((D i) - 48)))), ⟨S.only ⟨rfl, rfl, rfl, trivial⟩, H, by rw [← hR]; simp only [rina, bc8, bc10, cond_true, cond_false], by omega, by omega⟩, Nat.lt_succ_self fu⟩
    ·
     have c10 := bc10
     have c10 := of_decide_eq_false c10
     refine wp_exit ?_
     refine e_then_exit ?_
     refine e_then_exit ?_
     refine e_in_exit ?_
     refine e_then ?_
     exact ⟨i, n, S.only ⟨rfl, rfl, rfl, trivial⟩, H, by rw [← hR]; simp only [rina, bc8, bc10, cond_true, cond_false], by omega⟩
   ·
    have c8 := bc8
    have c8 := of_decide_eq_false c8
    refine l_off S rfl rfl rfl rfl bc8 rfl rfl ?_; clear S a; intro a S
    refine l_off S rfl rfl rfl rfl bc8 rfl rfl ?_; clear S a; intro a S
    refine l_off S rfl rfl rfl rfl bc8 rfl rfl ?_; clear S a; intro a S
    refine l_off S rfl rfl rfl rfl bc8 rfl rfl ?_; clear S a; intro a S
    refine l_off S rfl rfl rfl rfl bc8 rfl rfl ?_; clear S a; intro a S
    refine l_off S rfl rfl rfl rfl bc8 rfl rfl ?_; clear S a; intro a S
    refine l_pure S (p_pick_f rfl bc8 rfl) rfl rfl rfl ?_; clear S a; intro a S
    refine l_nil ?_
    refine e_then ?_
    refine c_cond (b := false) S rfl (fun h => by cases h) (fun _ => ?_)
    refine wp_exit ?_
    refine e_then_exit ?_
    refine e_then_exit ?_
    refine e_in_exit ?_
    refine e_then ?_
    exact ⟨i, n, S.only ⟨rfl, rfl, rfl, trivial⟩, H, by rw [← hR]; simp only [rina, bc8, cond_true, cond_false], by omega⟩
end d1
end Go.Proofs.YtneoieigaakoaaaGreatDoor.pf
end
section
namespace Go.Proofs.YtneoieigaakoaaaGreatDoor.pf
open Go.Proofs.YtneoieigaakoaaaGreatDoor.fx
open Go.RowKit Go.Proofs.HHW Go.Proofs.YtneoieigaakoaaaGreatDoorW.PrintWords
namespace d3
def rs3 (k : Nat) (D : Int → Int) (nd dp : Int) (tr : Bool) (y : Int) (E : Int → Int) (pz : Int) (tz : Bool) : (Int → Int) × Int × Int × Bool := (E, (d1.trm E y pz).1, (d1.trm E y pz).2, tz)
def rsc (k : Nat) (D : Int → Int) (nd dp : Int) (tr : Bool) : Nat → Int → Int → (Int → Int) → Int → Bool → Nat → (Int → Int) × Int × Int × Bool
 | 0, _, _, _, _, _, _ => default
 | fu + 1, y, n, E, pz, tz, j => (bif (decide (n > 0)) then (bif (decide (y < 800)) then rsc k D nd dp tr fu (y + 1) ((n % 2 ^ k) * 10) (upd E y ((n / 2 ^ k) + 48)) pz tz (j + 1) else (bif (decide ((n / 2 ^ k) > 0)) then rsc k D nd dp tr fu y ((n % 2 ^ k) * 10) E pz true (j + 1) else rsc k D nd dp tr fu y ((n % 2 ^ k) * 10) E pz tz (j + 1))) else rs3 k D nd dp tr y E pz tz)
def rs2 (k : Nat) (D : Int → Int) (nd dp : Int) (tr : Bool) (y : Int) (n : Int) (E : Int → Int) (pz : Int) : (Int → Int) × Int × Int × Bool := rsc k D nd dp tr ((k + 4 - 0) + 1) y n E pz tr 0
def rsb (k : Nat) (D : Int → Int) (nd dp : Int) (tr : Bool) : Nat → Int → Int → Int → (Int → Int) → Int → (Int → Int) × Int × Int × Bool
 | 0, _, _, _, _, _ => default
 | fu + 1, r, y, n, E, pz => (bif (decide (r < nd)) then rsb k D nd dp tr fu (r + 1) (y + 1) ((((n % 2 ^ k) * 10) + (E r)) - 48) (upd E y ((n / 2 ^ k) + 48)) pz else rs2 k D nd dp tr y n E pz)
def rs1 (k : Nat) (D : Int → Int) (nd dp : Int) (tr : Bool) (r1 : Int) (m0 : Int) : (Int → Int) × Int × Int × Bool := rsb k D nd dp tr (((nd - r1).toNat) + 1) r1 0 m0 D (dp - (r1 - 1))
def rsi (k : Nat) (D : Int → Int) (nd dp : Int) (tr : Bool) : Nat → Int → Int → (Int → Int) × Int × Int × Bool
 | 0, _, _ => default
 | fu + 1, r, n => (bif ((n / 2 ^ k) == 0) then rsi k D nd dp tr fu (r + 1) (n * 10) else rs1 k D nd dp tr r n)
def rsa (k : Nat) (D : Int → Int) (nd dp : Int) (tr : Bool) : Nat → Int → Int → (Int → Int) × Int × Int × Bool
 | 0, _, _ => default
 | fu + 1, r, n => (bif ((n / 2 ^ k) == 0) then (bif (decide (r ≥ nd)) then rsi k D nd dp tr (((2 ^ k - n).toNat) + 1) r n else rsa k D nd dp tr fu (r + 1) (((n * 10) + (D r)) - 48)) else rs1 k D nd dp tr r n)
def rsh (k : Nat) (D : Int → Int) (nd dp : Int) (tr : Bool) : (Int → Int) × Int × Int × Bool := rsa k D nd dp tr (((nd - 0).toNat + 1) + 1) 0 0
set_option maxHeartbeats 2000000 in
theorem rsh_ (wb w0 : World) (B : Nat) (L0 : List (Nat × Obj)) (gd : Nat) (D : Int → Int) (nd dp : Int) (ng tr : Bool) (k : Nat) (hk : 1 ≤ k ∧ k ≤ 60) (hN : 1 ≤ nd ∧ nd ≤ 800) (hg : Dg D nd) (hp : -1000000000000000 ≤ dp ∧ dp ≤ 1000000000000000) (H : HH B wb w0 ((gd, .cells (decC D nd dp ng tr) 113 (0, 0)) :: L0)) : Calls Tryz.prog 85 #[.pointer (some ⟨gd, 0, none⟩), .int .u64 (k : Int)] w0 fun e w' => e = .returned (.tuple #[]) ∧ HH B wb w' ((gd, .cells (decC (rsh k D nd dp tr).1 (rsh k D nd dp tr).2.1 (rsh k D nd dp tr).2.2.1 ng (rsh k D nd dp tr).2.2.2) 113 (0, 0)) :: L0) ∧ (Dg (rsh k D nd dp tr).1 (rsh k D nd dp tr).2.1 ∧ 1 ≤ (rsh k D nd dp tr).2.1 ∧ (rsh k D nd dp tr).2.1 ≤ 800) ∧ (dp - 1000 ≤ (rsh k D nd dp tr).2.2.1 ∧ (rsh k D nd dp tr).2.2.1 ≤ dp ∧ 20 * (rsh k D nd dp tr).2.2.1 + (rsh k D nd dp tr).1 0 < 20 * dp + D 0) := by
 generalize hR : rsh k D nd dp tr = R
 have hpk := pow_k hk.1 hk.2
 have hdig := hg.1
 have hD0 : D 0 ≠ 48 := hg.2 (by omega)
 refine c_enter (args := [.pointer (some ⟨gd, 0, none⟩), .int .u64 (k : Int)]) (k := 128) Tryz.func85 rfl rfl rfl (fun a S => ?_)
 refine wp_seq ?_
 refine c_region ?_
 refine l_mv 1 S rfl ?_; clear S a; intro a S
 refine l_nil ?_
 refine e_then ?_
 refine wp_seq ?_
 refine c_region ?_
 refine l_mv 1 S rfl ?_; clear S a; intro a S
 refine l_nil ?_
 refine e_then ?_
 refine wp_seq ?_
 refine c_region ?_
 refine l_mv 1 S rfl ?_; clear S a; intro a S
 refine l_nil ?_
 refine e_then ?_
 refine c_cut (fun a w => ∃ r1 : Int, ∃ m0 : Int, SL a 130 [] [(0, .pointer (some ⟨gd, 0, none⟩)), (1, .int .u64 (k : Int)), (5, .int .i64 0), (4, .int .i64 r1), (6, .int .u64 m0)] ∧ HH B wb w ((gd, .cells (decC D nd dp ng tr) 113 (0, 0)) :: L0) ∧ rs1 k D nd dp tr r1 m0 = R ∧ ((1 ≤ r1 ∧ r1 ≤ nd + 63) ∧ (2 ^ k ≤ m0 ∧ m0 < 10 * 2 ^ k) ∧ (r1 = 1 → m0 = D 0 - 48))) ?_ ?_
 ·
  clear S a H hR; rintro a w ⟨r1, m0, S, H, hR, hinv⟩
  obtain ⟨hr1, hm0, hm1⟩ := hinv
  have hq1 := q_pos hm0.1
  have hq2 := q_bd (n := m0) (k := k) (by omega)
  refine wp_seq ?_
  refine c_region ?_
  refine l_mv 2 S rfl ?_; clear S a; intro a S
  refine l_pure S (p_fieldAddr rfl (fun w => fa113_2 w _ _)) rfl rfl rfl ?_; clear S a; intro a S
  refine l_read S H (r_load rfl List.mem_cons_self (show _ = some (.int .i64 dp) from dec_dp) (fun w hc => ld1 ag3 hc)) rfl rfl rfl ?_; clear S a; intro a S
  refine l_mv 1 S rfl ?_; clear S a; intro a S
  refine l_pure S (p_sub (r := (r1 - 1)) rfl rfl (IntWalk.i64_in _ (by omega))) rfl rfl rfl ?_; clear S a; intro a S
  refine l_pure S (p_sub (r := (dp - (r1 - 1))) rfl rfl (IntWalk.i64_in _ (by omega))) rfl rfl rfl ?_; clear S a; intro a S
  refine l_mv 1 S rfl ?_; clear S a; intro a S
  refine l_pure S (p_fieldAddr rfl (fun w => fa113_2 w _ _)) rfl rfl rfl ?_; clear S a; intro a S
  refine l_store S H rfl rfl rfl (Upd.cast (set_dp (v := (dp - (r1 - 1)))) .here) (by rw [dec_size]; omega) (fun w u hc hz => st1 sz3 rfl hc hz) rfl rfl ?_; clear S a H; intro w a H S
  refine l_nil ?_
  refine e_then ?_
  refine wp_seq ?_
  refine c_region ?_
  refine l_mv 1 S rfl ?_; clear S a; intro a S
  refine l_pure S (p_shl (r := 2 ^ k) rfl rfl (by omega) (by rw [shlU (k := k) rfl (by omega) (by rw [Int.one_mul]; omega)]; exact Int.one_mul _)) rfl rfl rfl ?_; clear S a; intro a S
  refine l_pure S (p_sub (r := (2 ^ k - 1)) rfl rfl (IntWalk.u64_in _ (by omega))) rfl rfl rfl ?_; clear S a; intro a S
  refine l_mv 1 S rfl ?_; clear S a; intro a S
  refine l_nil ?_
  refine e_then ?_
  refine c_cut (fun a w => ∃ y : Int, ∃ n : Int, ∃ E : Int → Int, ∃ pz : Int, SL a 130 [] [(0, .pointer (some ⟨gd, 0, none⟩)), (1, .int .u64 (k : Int)), (8, .int .u64 (2 ^ k - 1)), (5, .int .i64 y), (6, .int .u64 n)] ∧ HH B wb w ((gd, .cells (decC E nd pz ng tr) 113 (0, 0)) :: L0) ∧ rs2 k D nd dp tr y n E pz = R ∧ ((0 ≤ y ∧ y ≤ 799) ∧ (0 ≤ n ∧ n < 10 * 2 ^ k) ∧ Ds E 0 y ∧ ((y = 0 → n = m0) ∧ (0 < y → E 0 = m0 / 2 ^ k + 48)) ∧ pz = dp - (r1 - 1))) ?_ ?_
  ·
   clear S a H hR; rintro a w ⟨y, n, E, pz, S, H, hR, hinv⟩
   obtain ⟨hw, hn, hE, hz, hpz⟩ := hinv
   refine c_cut (fun a w => ∃ y : Int, ∃ E : Int → Int, ∃ pz : Int, ∃ tz : Bool, SL a 130 [] [(0, .pointer (some ⟨gd, 0, none⟩)), (1, .int .u64 (k : Int)), (5, .int .i64 y)] ∧ HH B wb w ((gd, .cells (decC E nd pz ng tz) 113 (0, 0)) :: L0) ∧ rs3 k D nd dp tr y E pz tz = R ∧ ((1 ≤ y ∧ y ≤ 800) ∧ Ds E 0 y ∧ E 0 = m0 / 2 ^ k + 48 ∧ pz = dp - (r1 - 1))) ?_ ?_
   ·
    clear S a H hR; rintro a w ⟨y, E, pz, tz, S, H, hR, hinv⟩
    obtain ⟨hw, hE, hz, hpz⟩ := hinv
    refine wp_seq ?_
    refine c_region ?_
    refine l_mv 3 S rfl ?_; clear S a; intro a S
    refine l_pure S (p_fieldAddr rfl (fun w => fa113_1 w _ _)) rfl rfl rfl ?_; clear S a; intro a S
    refine l_store S H rfl rfl rfl (Upd.cast (set_nd (v := y)) .here) (by rw [dec_size]; omega) (fun w u hc hz => st1 sz3 rfl hc hz) rfl rfl ?_; clear S a H; intro w a H S
    refine l_nil ?_
    refine e_then ?_
    refine c_region ?_
    refine l_mv 1 S rfl ?_; clear S a; intro a S
    have hcon := d1.trm_ wb _ B L0 gd E y pz ng tz (by omega) H
    refine l_call S rfl rfl Tryz.func92 rfl rfl (hcon) rfl rfl rfl ?_
    rintro e w ⟨rfl, hH, ht1, ht2, ht3⟩
    refine ⟨_, rfl, ?_⟩; clear S a; intro a S
    clear H hcon; have H := hH; clear hH
    refine l_nil ?_
    obtain ⟨ht4, ht5⟩ := ht3 (by omega) (by omega)
    have eR : R = (E, (d1.trm E y pz).1, (d1.trm E y pz).2, tz) := by rw [← hR]; simp only [rs3, cond_true, cond_false]
    clear hR; subst eR
    exact r_end0 S rfl ⟨rfl, H, ⟨⟨fun i a b => hE i a (by dsimp only at b; omega), fun _ => by dsimp only; omega⟩, by dsimp only; omega⟩, by dsimp only; rw [ht5]; exact shr_fin hr1 hm1 hz hpz (hdig 0 (by omega) (by omega)) hD0 hpk.1 hq2.1.2 hN.2⟩
   ·
    refine wp_block ?_
    refine c_loop (σ := Nat × Int × Int × (Int → Int) × Int × Bool × Nat) (fun s_ a w => match s_ with | (k_, y, n, E, pz, tz, j) => SL a 130 [] [(0, .pointer (some ⟨gd, 0, none⟩)), (1, .int .u64 (k : Int)), (8, .int .u64 (2 ^ k - 1)), (5, .int .i64 y), (6, .int .u64 n)] ∧ HH B wb w ((gd, .cells (decC E nd pz ng tz) 113 (0, 0)) :: L0) ∧ (rsc k D nd dp tr k_ y n E pz tz j = R ∧ k + 4 - j < k_ ∧ ((0 ≤ y ∧ y ≤ 800) ∧ (0 ≤ n ∧ n < 10 * 2 ^ k) ∧ Ds E 0 y ∧ ((y = 0 → n = m0) ∧ (0 < y → E 0 = m0 / 2 ^ k + 48)) ∧ pz = dp - (r1 - 1) ∧ (2 : Int) ^ j ∣ n ∧ j ≤ k + 4))) (fun s_ => s_.1) ((k + 4 - 0) + 1, y, n, E, pz, tr, 0) ⟨S.only ⟨rfl, rfl, rfl, rfl, rfl, trivial⟩, H, by rw [← hR]; simp only [rs2, cond_true, cond_false], by omega, ⟨by omega, by omega, hE, hz, hpz, ⟨n, by simp⟩, by omega⟩⟩ ?_
    clear S a H hR; rintro ⟨fu, y, n, E, pz, tz, j⟩ a w ⟨S, H, hR, hk, hinv⟩
    obtain ⟨fu, rfl⟩ : ∃ j, fu = j + 1 := ⟨fu - 1, by omega⟩
    obtain ⟨hw, hn, hE, hz, hpz, hj, hj2⟩ := hinv
    refine wp_seq ?_
    refine wp_seq ?_
    refine c_region ?_
    refine l_mv 1 S rfl ?_; clear S a; intro a S
    refine l_pure S (p_gtr rfl rfl) rfl rfl rfl ?_; clear S a; intro a S
    refine l_nil ?_
    refine e_then ?_
    refine c_cond S rfl (fun bc2 => ?_) (fun bc2 => ?_)
    ·
     have c2 := bc2
     have c2 := of_decide_eq_true c2
     refine wp_skip ?_
     refine e_then ?_
     refine wp_block ?_
     refine wp_seq ?_
     refine c_region ?_
     refine l_mv 2 S rfl ?_; clear S a; intro a S
     refine l_pure S (p_shr (r := (n / 2 ^ k)) rfl rfl (by omega) (shrU (k := k) rfl (by omega))) rfl rfl rfl ?_; clear S a; intro a S
     refine l_mv 1 S rfl ?_; clear S a; intro a S
     refine l_nil ?_
     refine e_then ?_
     refine wp_seq ?_
     refine c_region ?_
     refine l_mv 2 S rfl ?_; clear S a; intro a S
     have hq := q_bd (n := n) (k := k) (by omega)
     refine l_pure S (p_and (r := (n % 2 ^ k)) rfl rfl (andU (by omega) (by omega))) rfl rfl rfl ?_; clear S a; intro a S
     refine l_mv 1 S rfl ?_; clear S a; intro a S
     refine l_nil ?_
     refine e_then ?_
     refine wp_seq ?_
     refine wp_seq ?_
     refine c_region ?_
     refine l_mv 1 S rfl ?_; clear S a; intro a S
     refine l_pure S (p_lss rfl rfl) rfl rfl rfl ?_; clear S a; intro a S
     refine l_nil ?_
     refine e_then ?_
     refine c_cond S rfl (fun bc4 => ?_) (fun bc4 => ?_)
     ·
      have c4 := bc4
      have c4 := of_decide_eq_true c4
      refine wp_seq ?_
      refine c_region ?_
      refine l_mv 3 S rfl ?_; clear S a; intro a S
      refine l_pure S (p_add (r := ((n / 2 ^ k) + 48)) rfl rfl (IntWalk.u64_in _ (by omega))) rfl rfl rfl ?_; clear S a; intro a S
      refine l_pure S (p_conv rfl (fun w => cv_int (Tryz.underlying87) (Tryz.underlying5) (r := ((n / 2 ^ k) + 48)) (IntWalk.u8_in _ (by omega)))) rfl rfl rfl ?_; clear S a; intro a S
      refine l_mv 1 S rfl ?_; clear S a; intro a S
      refine l_pure S (p_fieldAddr rfl (fun w => fa113_0 w _ _)) rfl rfl rfl ?_; clear S a; intro a S
      refine l_pure S (p_indexAddr rfl rfl (fun w => ia_array Tryz.underlying111 sz5 (by omega) (by omega))) rfl rfl rfl ?_; clear S a; intro a S
      refine l_store S H rfl rfl rfl (Upd.cast (dec_set (X := y) (v := ((n / 2 ^ k) + 48)) (by omega) (by omega)) .here) (by rw [dec_size]; omega) (fun w u hc hz => st1 sz5 rfl hc hz) rfl rfl ?_; clear S a H; intro w a H S
      refine l_nil ?_
      refine e_then ?_
      refine c_region ?_
      refine l_mv 1 S rfl ?_; clear S a; intro a S
      refine l_pure S (p_add (r := (y + 1)) rfl rfl (IntWalk.i64_in _ (by omega))) rfl rfl rfl ?_; clear S a; intro a S
      refine l_mv 1 S rfl ?_; clear S a; intro a S
      refine l_nil ?_
      refine e_then ?_
      refine c_region ?_
      refine l_mv 1 S rfl ?_; clear S a; intro a S
      refine l_pure S (p_mul (r := ((n % 2 ^ k) * 10)) rfl rfl (IntWalk.u64_in _ (by omega))) rfl rfl rfl ?_; clear S a; intro a S
      refine l_mv 1 S rfl ?_; clear S a; intro a S
      refine l_nil ?_
      refine e_in 7 ?_
      refine e_then ?_
      have hj3 := dvd_le hj (by omega) hn.2
      exact ⟨(fu, (y + 1), ((n % 2 ^ k) * 10), (upd E y ((n / 2 ^ k) + 48)), pz, tz, (j + 1)), ⟨S.only ⟨rfl, rfl, rfl, rfl, rfl, trivial⟩, H, by rw [← hR]; simp only [rsc, bc2, bc4, cond_true, cond_false], by omega, ⟨by omega, by omega, hE.upd (by omega), ⟨fun h => by omega, fun _ => upd0 hw.1 (fun h => by rw [hz.1 h]) hz.2⟩, hpz, dvd_next hj, by omega⟩⟩, Nat.lt_succ_self fu⟩
     ·
      have c4 := bc4
      have c4 := of_decide_eq_false c4
      refine wp_seq ?_
      refine c_region ?_
      refine l_mv 1 S rfl ?_; clear S a; intro a S
      refine l_pure S (p_gtr rfl rfl) rfl rfl rfl ?_; clear S a; intro a S
      refine l_nil ?_
      refine e_then ?_
      refine c_cond S rfl (fun bc6 => ?_) (fun bc6 => ?_)
      ·
       have c6 := bc6
       have c6 := of_decide_eq_true c6
       refine c_region ?_
       refine l_mv 2 S rfl ?_; clear S a; intro a S
       refine l_pure S (p_fieldAddr rfl (fun w => fa113_4 w _ _)) rfl rfl rfl ?_; clear S a; intro a S
       refine l_store S H rfl rfl rfl (Upd.cast (set_tr (v := true)) .here) (by rw [dec_size]; omega) (fun w u hc hz => st1 sz4 rfl hc hz) rfl rfl ?_; clear S a H; intro w a H S
       refine l_nil ?_
       refine e_then ?_
       refine c_region ?_
       refine l_mv 1 S rfl ?_; clear S a; intro a S
       refine l_pure S (p_mul (r := ((n % 2 ^ k) * 10)) rfl rfl (IntWalk.u64_in _ (by omega))) rfl rfl rfl ?_; clear S a; intro a S
       refine l_mv 1 S rfl ?_; clear S a; intro a S
       refine l_nil ?_
       refine e_in 7 ?_
       refine e_then ?_
       have hj3 := dvd_le hj (by omega) hn.2
       exact ⟨(fu, y, ((n % 2 ^ k) * 10), E, pz, true, (j + 1)), ⟨S.only ⟨rfl, rfl, rfl, rfl, rfl, trivial⟩, H, by rw [← hR]; simp only [rsc, bc2, bc4, bc6, cond_true, cond_false], by omega, ⟨by omega, by omega, hE, ⟨fun h => by omega, hz.2⟩, hpz, dvd_next hj, by omega⟩⟩, Nat.lt_succ_self fu⟩
      ·
       have c6 := bc6
       have c6 := of_decide_eq_false c6
       refine wp_skip ?_
       refine e_then ?_
       refine c_region ?_
       refine l_mv 1 S rfl ?_; clear S a; intro a S
       refine l_pure S (p_mul (r := ((n % 2 ^ k) * 10)) rfl rfl (IntWalk.u64_in _ (by omega))) rfl rfl rfl ?_; clear S a; intro a S
       refine l_mv 1 S rfl ?_; clear S a; intro a S
       refine l_nil ?_
       refine e_in 7 ?_
       refine e_then ?_
       have hj3 := dvd_le hj (by omega) hn.2
       exact ⟨(fu, y, ((n % 2 ^ k) * 10), E, pz, tz, (j + 1)), ⟨S.only ⟨rfl, rfl, rfl, rfl, rfl, trivial⟩, H, by rw [← hR]; simp only [rsc, bc2, bc4, bc6, cond_true, cond_false], by omega, ⟨by omega, by omega, hE, ⟨fun h => by omega, hz.2⟩, hpz, dvd_next hj, by omega⟩⟩, Nat.lt_succ_self fu⟩
    ·
     have c2 := bc2
     have c2 := of_decide_eq_false c2
     refine wp_exit ?_
     refine e_then_exit ?_
     refine e_then_exit ?_
     refine e_in_exit ?_
     refine e_then ?_
     have hwp : 0 < y := wpos hw.1 hz.1 (by omega)
     exact ⟨y, E, pz, tz, S.only ⟨rfl, rfl, rfl, trivial⟩, H, by rw [← hR]; simp only [rsc, bc2, cond_true, cond_false], ⟨by omega, hE, hz.2 hwp, hpz⟩⟩
  ·
   refine wp_block ?_
   refine c_loop (σ := Nat × Int × Int × Int × (Int → Int) × Int) (fun s_ a w => match s_ with | (k_, r, y, n, E, pz) => SL a 130 [] [(0, .pointer (some ⟨gd, 0, none⟩)), (1, .int .u64 (k : Int)), (8, .int .u64 (2 ^ k - 1)), (4, .int .i64 r), (5, .int .i64 y), (6, .int .u64 n)] ∧ HH B wb w ((gd, .cells (decC E nd pz ng tr) 113 (0, 0)) :: L0) ∧ (rsb k D nd dp tr k_ r y n E pz = R ∧ (nd - r).toNat < k_ ∧ ((0 ≤ y ∧ y + 1 ≤ r ∧ r ≤ nd + 63 ∧ (y = 0 ∨ r ≤ nd)) ∧ (0 ≤ n ∧ n < 10 * 2 ^ k) ∧ Ds E 0 y ∧ ((y = 0 → n = m0) ∧ (0 < y → E 0 = m0 / 2 ^ k + 48)) ∧ pz = dp - (r1 - 1) ∧ Ds E r nd))) (fun s_ => s_.1) (((nd - r1).toNat) + 1, r1, 0, m0, D, (dp - (r1 - 1))) ⟨S.only ⟨rfl, rfl, rfl, rfl, rfl, rfl, trivial⟩, H, by rw [← hR]; simp only [rs1, cond_true, cond_false], by omega, ⟨by omega, by omega, fun i a b => by omega, ⟨fun _ => rfl, fun h => by omega⟩, by omega, fun i a b => hdig i (by omega) b⟩⟩ ?_
   clear S a H hR; rintro ⟨fu, r, y, n, E, pz⟩ a w ⟨S, H, hR, hk, hinv⟩
   obtain ⟨fu, rfl⟩ : ∃ j, fu = j + 1 := ⟨fu - 1, by omega⟩
   obtain ⟨hw, hn, hE, hz, hpz, hF⟩ := hinv
   refine wp_seq ?_
   refine wp_seq ?_
   refine c_region ?_
   refine l_mv 3 S rfl ?_; clear S a; intro a S
   refine l_pure S (p_fieldAddr rfl (fun w => fa113_1 w _ _)) rfl rfl rfl ?_; clear S a; intro a S
   refine l_read S H (r_load rfl List.mem_cons_self (show _ = some (.int .i64 nd) from dec_nd) (fun w hc => ld1 ag3 hc)) rfl rfl rfl ?_; clear S a; intro a S
   refine l_pure S (p_lss rfl rfl) rfl rfl rfl ?_; clear S a; intro a S
   refine l_nil ?_
   refine e_then ?_
   refine c_cond S rfl (fun bc8 => ?_) (fun bc8 => ?_)
   ·
    have c8 := bc8
    have c8 := of_decide_eq_true c8
    refine wp_skip ?_
    refine e_then ?_
    refine wp_seq ?_
    refine wp_block ?_
    refine wp_seq ?_
    refine c_region ?_
    refine l_mv 3 S rfl ?_; clear S a; intro a S
    refine l_pure S (p_fieldAddr rfl (fun w => fa113_0 w _ _)) rfl rfl rfl ?_; clear S a; intro a S
    refine l_pure S (p_indexAddr rfl rfl (fun w => ia_array Tryz.underlying111 sz5 (by omega) (by omega))) rfl rfl rfl ?_; clear S a; intro a S
    refine l_read S H (r_load rfl List.mem_cons_self (dec_at (X := r) (by omega) (by omega)) (fun w hc => ld1 ag5 hc)) rfl rfl rfl ?_; clear S a; intro a S
    have := hF r (by omega) (by omega)
    refine l_pure S (p_conv rfl (fun w => cv_int (Tryz.underlying5) (Tryz.underlying87) (r := (E r)) (IntWalk.u64_in _ (by omega)))) rfl rfl rfl ?_; clear S a; intro a S
    refine l_mv 1 S rfl ?_; clear S a; intro a S
    refine l_nil ?_
    refine e_then ?_
    refine wp_seq ?_
    refine c_region ?_
    refine l_mv 2 S rfl ?_; clear S a; intro a S
    refine l_pure S (p_shr (r := (n / 2 ^ k)) rfl rfl (by omega) (shrU (k := k) rfl (by omega))) rfl rfl rfl ?_; clear S a; intro a S
    refine l_mv 1 S rfl ?_; clear S a; intro a S
    refine l_nil ?_
    refine e_then ?_
    refine wp_seq ?_
    refine c_region ?_
    refine l_mv 2 S rfl ?_; clear S a; intro a S
    have hq := q_bd (n := n) (k := k) (by omega)
    refine l_pure S (p_and (r := (n % 2 ^ k)) rfl rfl (andU (by omega) (by omega))) rfl rfl rfl ?_; clear S a; intro a S
    refine l_mv 1 S rfl ?_; clear S a; intro a S
    refine l_nil ?_
    refine e_then ?_
    refine wp_seq ?_
    refine c_region ?_
    refine l_mv 3 S rfl ?_; clear S a; intro a S
    refine l_pure S (p_add (r := ((n / 2 ^ k) + 48)) rfl rfl (IntWalk.u64_in _ (by omega))) rfl rfl rfl ?_; clear S a; intro a S
    refine l_pure S (p_conv rfl (fun w => cv_int (Tryz.underlying87) (Tryz.underlying5) (r := ((n / 2 ^ k) + 48)) (IntWalk.u8_in _ (by omega)))) rfl rfl rfl ?_; clear S a; intro a S
    refine l_mv 1 S rfl ?_; clear S a; intro a S
    refine l_pure S (p_fieldAddr rfl (fun w => fa113_0 w _ _)) rfl rfl rfl ?_; clear S a; intro a S
    refine l_pure S (p_indexAddr rfl rfl (fun w => ia_array Tryz.underlying111 sz5 (by omega) (by omega))) rfl rfl rfl ?_; clear S a; intro a S
    refine l_store S H rfl rfl rfl (Upd.cast (dec_set (X := y) (v := ((n / 2 ^ k) + 48)) (by omega) (by omega)) .here) (by rw [dec_size]; omega) (fun w u hc hz => st1 sz5 rfl hc hz) rfl rfl ?_; clear S a H; intro w a H S
    refine l_nil ?_
    refine e_then ?_
    refine wp_seq ?_
    refine c_region ?_
    refine l_mv 1 S rfl ?_; clear S a; intro a S
    refine l_pure S (p_add (r := (y + 1)) rfl rfl (IntWalk.i64_in _ (by omega))) rfl rfl rfl ?_; clear S a; intro a S
    refine l_mv 1 S rfl ?_; clear S a; intro a S
    refine l_nil ?_
    refine e_then ?_
    refine c_region ?_
    refine l_mv 1 S rfl ?_; clear S a; intro a S
    refine l_pure S (p_mul (r := ((n % 2 ^ k) * 10)) rfl rfl (IntWalk.u64_in _ (by omega))) rfl rfl rfl ?_; clear S a; intro a S
    refine l_mv 1 S rfl ?_; clear S a; intro a S
    refine l_pure S (p_add (r := (((n % 2 ^ k) * 10) + (E r))) rfl rfl (IntWalk.u64_in _ (by omega))) rfl rfl rfl ?_; clear S a; intro a S
    refine l_pure S (p_sub (r := ((((n % 2 ^ k) * 10) + (E r)) - 48)) rfl rfl (IntWalk.u64_in _ (by omega))) rfl rfl rfl ?_; clear S a; intro a S
    refine l_mv 1 S rfl ?_; clear S a; intro a S
    refine l_nil ?_
    refine e_in 5 ?_
    refine e_then ?_
    refine c_region ?_
    refine l_mv 1 S rfl ?_; clear S a; intro a S
    refine l_pure S (p_add (r := (r + 1)) rfl rfl (IntWalk.i64_in _ (by omega))) rfl rfl rfl ?_; clear S a; intro a S
    refine l_mv 1 S rfl ?_; clear S a; intro a S
    refine l_nil ?_
    refine e_then ?_
    exact ⟨(fu, (r + 1), (y + 1), ((((n % 2 ^ k) * 10) + (E r)) - 48), (upd E y ((n / 2 ^ k) + 48)), pz), ⟨S.only ⟨rfl, rfl, rfl, rfl, rfl, rfl, trivial⟩, H, by rw [← hR]; simp only [rsb, bc8, cond_true, cond_false], by omega, ⟨by omega, by omega, hE.upd (by omega), ⟨fun h => by omega, fun _ => upd0 hw.1 (fun h => by rw [hz.1 h]) hz.2⟩, hpz, hF.up2 (by omega)⟩⟩, Nat.lt_succ_self fu⟩
   ·
    have c8 := bc8
    have c8 := of_decide_eq_false c8
    refine wp_exit ?_
    refine e_then_exit ?_
    refine e_then_exit ?_
    refine e_in_exit ?_
    refine e_then ?_
    exact ⟨y, n, E, pz, S.only ⟨rfl, rfl, rfl, rfl, rfl, trivial⟩, H, by rw [← hR]; simp only [rsb, bc8, cond_true, cond_false], ⟨by omega, by omega, hE, hz, hpz⟩⟩
 ·
  refine wp_block ?_
  refine c_loop (σ := Nat × Int × Int) (fun s_ a w => match s_ with | (k_, r, n) => SL a 130 [] [(0, .pointer (some ⟨gd, 0, none⟩)), (1, .int .u64 (k : Int)), (5, .int .i64 0), (4, .int .i64 r), (6, .int .u64 n)] ∧ HH B wb w ((gd, .cells (decC D nd dp ng tr) 113 (0, 0)) :: L0) ∧ (rsa k D nd dp tr k_ r n = R ∧ (nd - r).toNat + 1 < k_ ∧ ((0 ≤ r ∧ r ≤ nd) ∧ (0 ≤ n ∧ n < 10 * 2 ^ k) ∧ (r = 0 → n = 0) ∧ (1 ≤ r → 1 ≤ n) ∧ (r = 1 → n = D 0 - 48)))) (fun s_ => s_.1) (((nd - 0).toNat + 1) + 1, 0, 0) ⟨S.only ⟨rfl, rfl, rfl, rfl, rfl, trivial⟩, H, by rw [← hR]; simp only [rsh, cond_true, cond_false], by omega, ⟨by omega, by omega, fun _ => rfl, fun h => by omega, fun h => by omega⟩⟩ ?_
  clear S a H hR; rintro ⟨fu, r, n⟩ a w ⟨S, H, hR, hk, hinv⟩
  obtain ⟨fu, rfl⟩ : ∃ j, fu = j + 1 := ⟨fu - 1, by omega⟩
  obtain ⟨hr, hn, hr0, hr1, hr2⟩ := hinv
  refine wp_seq ?_
  refine wp_seq ?_
  refine c_region ?_
  refine l_mv 2 S rfl ?_; clear S a; intro a S
  refine l_pure S (p_shr (r := (n / 2 ^ k)) rfl rfl (by omega) (shrU (k := k) rfl (by omega))) rfl rfl rfl ?_; clear S a; intro a S
  refine l_pure S (p_eql rfl rfl) rfl rfl rfl ?_; clear S a; intro a S
  refine l_nil ?_
  refine e_then ?_
  refine c_cond S rfl (fun bc10 => ?_) (fun bc10 => ?_)
  ·
   have c10 := bc10
   have c10 := eq_of_beq c10
   have hlt := q_0 (n := n) (k := k) (by omega)
   refine wp_skip ?_
   refine e_then ?_
   refine wp_seq ?_
   refine wp_block ?_
   refine wp_seq ?_
   refine wp_seq ?_
   refine c_region ?_
   refine l_mv 3 S rfl ?_; clear S a; intro a S
   refine l_pure S (p_fieldAddr rfl (fun w => fa113_1 w _ _)) rfl rfl rfl ?_; clear S a; intro a S
   refine l_read S H (r_load rfl List.mem_cons_self (show _ = some (.int .i64 nd) from dec_nd) (fun w hc => ld1 ag3 hc)) rfl rfl rfl ?_; clear S a; intro a S
   refine l_pure S (p_geq rfl rfl) rfl rfl rfl ?_; clear S a; intro a S
   refine l_nil ?_
   refine e_then ?_
   refine c_cond S rfl (fun bc12 => ?_) (fun bc12 => ?_)
   ·
    have c12 := bc12
    have c12 := of_decide_eq_true c12
    refine wp_seq ?_
    refine wp_seq ?_
    refine c_region ?_
    refine l_mv 1 S rfl ?_; clear S a; intro a S
    refine l_pure S (p_eql rfl rfl) rfl rfl rfl ?_; clear S a; intro a S
    refine l_nil ?_
    refine e_then ?_
    refine c_cond S rfl (fun c14 => by have c14 := eq_of_beq c14; exfalso; omega) (fun c14 => ?_)
    have c14 := ne_of_beq_false c14
    refine wp_skip ?_
    refine e_then ?_
    refine wp_seq ?_
    refine wp_block ?_
    have hlg0 := lgi_le (n := n) (by omega)
    have hn1 := hr1 (by omega)
    refine c_loop (σ := Nat × Int × Int) (fun s_ a w => match s_ with | (k_, r, n) => SL a 130 [] [(0, .pointer (some ⟨gd, 0, none⟩)), (1, .int .u64 (k : Int)), (5, .int .i64 0), (4, .int .i64 r), (6, .int .u64 n)] ∧ HH B wb w ((gd, .cells (decC D nd dp ng tr) 113 (0, 0)) :: L0) ∧ (rsi k D nd dp tr k_ r n = R ∧ (2 ^ k - n).toNat < k_ ∧ ((nd ≤ r ∧ r ≤ nd + lgi n) ∧ (1 ≤ n ∧ n < 10 * 2 ^ k) ∧ (r = 1 → n = D 0 - 48)))) (fun s_ => s_.1) (((2 ^ k - n).toNat) + 1, r, n) ⟨S.only ⟨rfl, rfl, rfl, rfl, rfl, trivial⟩, H, by rw [← hR]; simp only [rsa, bc10, bc12, cond_true, cond_false], by omega, ⟨by omega, by omega, hr2⟩⟩ ?_
    clear S a H hR; rintro ⟨fu, r, n⟩ a w ⟨S, H, hR, hk, hinv⟩
    obtain ⟨fu, rfl⟩ : ∃ j, fu = j + 1 := ⟨fu - 1, by omega⟩
    obtain ⟨hr, hn, hr2⟩ := hinv
    have hlg := lgi_le (n := n) (by omega)
    refine wp_seq ?_
    refine wp_seq ?_
    refine c_region ?_
    refine l_mv 2 S rfl ?_; clear S a; intro a S
    refine l_pure S (p_shr (r := (n / 2 ^ k)) rfl rfl (by omega) (shrU (k := k) rfl (by omega))) rfl rfl rfl ?_; clear S a; intro a S
    refine l_pure S (p_eql rfl rfl) rfl rfl rfl ?_; clear S a; intro a S
    refine l_nil ?_
    refine e_then ?_
    refine c_cond S rfl (fun bc16 => ?_) (fun bc16 => ?_)
    ·
     have c16 := bc16
     have c16 := eq_of_beq c16
     have hlt := q_0 (n := n) (k := k) (by omega)
     refine wp_skip ?_
     refine e_then ?_
     refine wp_block ?_
     refine wp_seq ?_
     refine c_region ?_
     refine l_mv 1 S rfl ?_; clear S a; intro a S
     refine l_pure S (p_mul (r := (n * 10)) rfl rfl (IntWalk.u64_in _ (by omega))) rfl rfl rfl ?_; clear S a; intro a S
     refine l_mv 1 S rfl ?_; clear S a; intro a S
     refine l_nil ?_
     refine e_then ?_
     refine c_region ?_
     refine l_mv 1 S rfl ?_; clear S a; intro a S
     refine l_pure S (p_add (r := (r + 1)) rfl rfl (IntWalk.i64_in _ (by omega))) rfl rfl rfl ?_; clear S a; intro a S
     refine l_mv 1 S rfl ?_; clear S a; intro a S
     refine l_nil ?_
     refine e_in 3 ?_
     refine e_then ?_
     have hlg2 := lgi_ten (n := n) (by omega)
     exact ⟨(fu, (r + 1), (n * 10)), ⟨S.only ⟨rfl, rfl, rfl, rfl, rfl, trivial⟩, H, by rw [← hR]; simp only [rsi, bc16, cond_true, cond_false], by omega, ⟨by omega, by omega, fun h => by omega⟩⟩, Nat.lt_succ_self fu⟩
    ·
     have c16 := bc16
     have c16 := ne_of_beq_false c16
     refine wp_exit ?_
     refine e_then_exit ?_
     refine e_then_exit ?_
     refine e_in_exit ?_
     refine e_then ?_
     refine wp_exit ?_
     refine e_then_exit ?_
     refine e_in_other rfl ?_
     refine e_then_exit ?_
     refine e_then_exit ?_
     refine e_in_exit ?_
     refine e_then ?_
     have hge := q_1 (n := n) (k := k) (by omega) (by omega)
     have hlg3 := lgi_le (n := n) (by omega)
     exact ⟨r, n, S.only ⟨rfl, rfl, rfl, rfl, rfl, trivial⟩, H, by rw [← hR]; simp only [rsi, bc16, cond_true, cond_false], ⟨by omega, by omega, hr2⟩⟩
   ·
    have c12 := bc12
    have c12 := of_decide_eq_false c12
    refine wp_skip ?_
    refine e_then ?_
    refine wp_seq ?_
    refine c_region ?_
    refine l_mv 3 S rfl ?_; clear S a; intro a S
    refine l_pure S (p_fieldAddr rfl (fun w => fa113_0 w _ _)) rfl rfl rfl ?_; clear S a; intro a S
    refine l_pure S (p_indexAddr rfl rfl (fun w => ia_array Tryz.underlying111 sz5 (by omega) (by omega))) rfl rfl rfl ?_; clear S a; intro a S
    refine l_read S H (r_load rfl List.mem_cons_self (dec_at (X := r) (by omega) (by omega)) (fun w hc => ld1 ag5 hc)) rfl rfl rfl ?_; clear S a; intro a S
    have := hdig r (by omega) (by omega)
    refine l_pure S (p_conv rfl (fun w => cv_int (Tryz.underlying5) (Tryz.underlying87) (r := (D r)) (IntWalk.u64_in _ (by omega)))) rfl rfl rfl ?_; clear S a; intro a S
    refine l_mv 1 S rfl ?_; clear S a; intro a S
    refine l_nil ?_
    refine e_then ?_
    refine c_region ?_
    refine l_mv 1 S rfl ?_; clear S a; intro a S
    refine l_pure S (p_mul (r := (n * 10)) rfl rfl (IntWalk.u64_in _ (by omega))) rfl rfl rfl ?_; clear S a; intro a S
    refine l_mv 1 S rfl ?_; clear S a; intro a S
    refine l_pure S (p_add (r := ((n * 10) + (D r))) rfl rfl (IntWalk.u64_in _ (by omega))) rfl rfl rfl ?_; clear S a; intro a S
    refine l_pure S (p_sub (r := (((n * 10) + (D r)) - 48)) rfl rfl (IntWalk.u64_in _ (by omega))) rfl rfl rfl ?_; clear S a; intro a S
    refine l_mv 1 S rfl ?_; clear S a; intro a S
    refine l_nil ?_
    refine e_in 1 ?_
    refine e_then ?_
    refine c_region ?_
    refine l_mv 1 S rfl ?_; clear S a; intro a S
    refine l_pure S (p_add (r := (r + 1)) rfl rfl (IntWalk.i64_in _ (by omega))) rfl rfl rfl ?_; clear S a; intro a S
    refine l_mv 1 S rfl ?_; clear S a; intro a S
    refine l_nil ?_
    refine e_then ?_
    exact ⟨(fu, (r + 1), (((n * 10) + (D r)) - 48)), ⟨S.only ⟨rfl, rfl, rfl, rfl, rfl, trivial⟩, H, by rw [← hR]; simp only [rsa, bc10, bc12, cond_true, cond_false], by omega, ⟨by omega, by omega, fun h => by omega, fun _ => step1 hr.1 hr0 hr1 hD0 this, fun h => step2 hr.1 hr0 (by omega)⟩⟩, Nat.lt_succ_self fu⟩
  ·
   have c10 := bc10
   have c10 := ne_of_beq_false c10
   refine wp_exit ?_
   refine e_then_exit ?_
   refine e_then_exit ?_
   refine e_in_exit ?_
   refine e_then ?_
   have hge := q_1 (n := n) (k := k) (by omega) (by omega)
   exact ⟨r, n, S.only ⟨rfl, rfl, rfl, rfl, rfl, trivial⟩, H, by rw [← hR]; simp only [rsa, bc10, cond_true, cond_false], ⟨by omega, by omega, hr2⟩⟩
end d3
end Go.Proofs.YtneoieigaakoaaaGreatDoor.pf
end
section
namespace Go.Proofs.YtneoieigaakoaaaGreatDoor.pf
open Go.Proofs.YtneoieigaakoaaaGreatDoor.fx
open Go.RowKit Go.Proofs.HHW Go.Proofs.YtneoieigaakoaaaGreatDoorW.PrintWords
theorem p10pos (n : Nat) : (0 : Int) < 10 ^ n := Int.pow_pos (by decide)
def pv (f : Int → Int) : Nat → Int
 | 0 => 0
 | n + 1 => pv f n * 10 + (f n - 48)
def sv (f : Int → Int) (n : Int) : Nat → Int
 | 0 => 0
 | c + 1 => (f (n - 1 - c) - 48) * 10 ^ c + sv f n c
theorem pv_sv (f : Int → Int) (a : Nat) : ∀ c, pv f (a + c) = pv f a * 10 ^ c + sv f ((a + c : Nat) : Int) c := by
 intro c
 induction c generalizing a with
 | zero => simp [sv]
 | succ c ih =>
  have h := ih (a + 1)
  rw [show a + (c + 1) = a + 1 + c by omega, h]
  simp only [pv, sv]
  rw [show (((a + 1 + c : Nat) : Int) - 1 - (c : Int)) = (a : Int) by omega, Int.pow_succ]
  generalize (10 : Int) ^ c = p
  rw [Int.add_mul, Int.mul_assoc (pv f a), Int.mul_comm 10 p]
  omega
theorem pv_eq (f : Int → Int) (n : Nat) : pv f n = sv f (n : Int) n := by
 have := pv_sv f 0 n
 simp only [Nat.zero_add, pv, Int.zero_mul, Int.zero_add] at this
 exact this
theorem pv_same {f g : Int → Int} : ∀ {i : Nat}, (∀ j : Int, 0 ≤ j → j < i → f j = g j) → pv f i = pv g i
 | 0, _ => rfl
 | i + 1, h => by
  simp only [pv]
  rw [pv_same (i := i) (fun j a b => h j a (by omega)), h i (by omega) (by omega)]
theorem pv_bd {f : Int → Int} (i : Nat) : ∀ (a : Nat), (∀ j : Int, 0 ≤ j → j < (i + a : Nat) → 48 ≤ f j ∧ f j ≤ 57) → pv f i * 10 ^ a ≤ pv f (i + a) ∧ pv f (i + a) < (pv f i + 1) * 10 ^ a
 | 0, _ => by simp; omega
 | a + 1, h => by
  have ih := pv_bd i a (fun j x y => h j x (by omega))
  have hd := h ((i + a : Nat) : Int) (by omega) (by omega)
  rw [show i + (a + 1) = i + a + 1 by omega]
  simp only [pv]
  rw [Int.pow_succ, ← Int.mul_assoc, ← Int.mul_assoc]
  generalize (10 : Int) ^ a = p at *
  generalize pv f i * p = u at *
  generalize (pv f i + 1) * p = v at *
  omega
theorem pv_pos {f : Int → Int} {n : Nat} (h : ∀ j : Int, 0 ≤ j → j < n → 48 ≤ f j ∧ f j ≤ 57) : 0 ≤ pv f n ∧ pv f n < 10 ^ n := by
 have := pv_bd (f := f) 0 n (fun j a b => h j a (by omega))
 simp only [Nat.zero_add, pv, Int.zero_mul, Int.zero_add, Int.one_mul] at this
 exact this
theorem pv_first {f : Int → Int} {n : Nat} (hn : 1 ≤ n) (h : ∀ j : Int, 0 ≤ j → j < n → 48 ≤ f j ∧ f j ≤ 57) (h0 : f 0 ≠ 48) : (10 : Int) ^ (n - 1) ≤ pv f n := by
 obtain ⟨a, rfl⟩ : ∃ a, n = 1 + a := ⟨n - 1, by omega⟩
 have := (pv_bd (f := f) 1 a (fun j x y => h j x (by omega))).1
 have hd := h 0 (by omega) (by omega)
 simp only [pv, Int.zero_mul, Int.zero_add] at this
 rw [show 1 + a - 1 = a by omega]
 refine Int.le_trans ?_ this
 have hp := p10pos a
 have : 1 * (10 : Int) ^ a ≤ (f ((0 : Nat) : Int) - 48) * 10 ^ a := Int.mul_le_mul_of_nonneg_right (by have e : f ((0 : Nat) : Int) = f 0 := rfl; omega) (Int.le_of_lt hp)
 omega
section
variable {f g : Int → Int} {n m i : Nat}
theorem lt_dig (hi : i < n) (hm : i < m) (hf : ∀ j : Int, 0 ≤ j → j < n → 48 ≤ f j ∧ f j ≤ 57) (hg : ∀ j : Int, 0 ≤ j → j < m → 48 ≤ g j ∧ g j ≤ 57) (he : ∀ j : Int, 0 ≤ j → j < i → f j = g j) (hl : f i < g i) : pv f n * 10 ^ m < pv g m * 10 ^ n := by
 obtain ⟨a, rfl⟩ : ∃ a, n = i + 1 + a := ⟨n - (i + 1), by omega⟩
 obtain ⟨b, rfl⟩ : ∃ b, m = i + 1 + b := ⟨m - (i + 1), by omega⟩
 have h1 := (pv_bd (f := f) (i + 1) a hf).2
 have h2 := (pv_bd (f := g) (i + 1) b hg).1
 have h3 : pv f (i + 1) + 1 ≤ pv g (i + 1) := by simp only [pv]; rw [pv_same he]; omega
 have pa := p10pos a
 have pb := p10pos b
 have pi := p10pos (i + 1)
 have h4 : (pv f (i + 1) + 1) * 10 ^ a ≤ pv g (i + 1) * 10 ^ a := Int.mul_le_mul_of_nonneg_right h3 (Int.le_of_lt pa)
 have h5 : pv f (i + 1 + a) < pv g (i + 1) * 10 ^ a := Int.lt_of_lt_of_le h1 h4
 rw [Int.pow_add 10 (i + 1) b, Int.pow_add 10 (i + 1) a]
 have h6 : pv f (i + 1 + a) * (10 ^ (i + 1) * 10 ^ b) < pv g (i + 1) * 10 ^ a * (10 ^ (i + 1) * 10 ^ b) := Int.mul_lt_mul_of_pos_right h5 (Int.mul_pos pi pb)
 have h7 : pv g (i + 1) * 10 ^ b * (10 ^ (i + 1) * 10 ^ a) ≤ pv g (i + 1 + b) * (10 ^ (i + 1) * 10 ^ a) := Int.mul_le_mul_of_nonneg_right h2 (Int.le_of_lt (Int.mul_pos pi pa))
 have e : pv g (i + 1) * 10 ^ a * (10 ^ (i + 1) * 10 ^ b) = pv g (i + 1) * 10 ^ b * (10 ^ (i + 1) * 10 ^ a) := by
  rw [Int.mul_assoc, Int.mul_assoc]; congr 1; rw [Int.mul_left_comm, Int.mul_left_comm (10 ^ b)]; congr 1; exact Int.mul_comm _ _
 omega
theorem lt_end (hm : n < m) (hf : ∀ j : Int, 0 ≤ j → j < n → 48 ≤ f j ∧ f j ≤ 57) (hg : ∀ j : Int, 0 ≤ j → j < m → 48 ≤ g j ∧ g j ≤ 57) (he : ∀ j : Int, 0 ≤ j → j < n → f j = g j) (hl : g (m - 1 : Nat) ≠ 48) : pv f n * 10 ^ m < pv g m * 10 ^ n := by
 obtain ⟨b, rfl⟩ : ∃ b, m = n + b + 1 := ⟨m - n - 1, by omega⟩
 have h2 := (pv_bd (f := g) n b (fun j x y => hg j x (by omega))).1
 have h3 := hg ((n + b : Nat) : Int) (by omega) (by omega)
 rw [show n + b + 1 - 1 = n + b by omega] at hl
 have h4 : pv g (n + b + 1) = pv g (n + b) * 10 + (g ((n + b : Nat) : Int) - 48) := rfl
 rw [← pv_same he] at h2
 have pn := p10pos n
 have h5 : pv f n * 10 ^ (b + 1) < pv g (n + b + 1) := by
  rw [Int.pow_succ, ← Int.mul_assoc, h4]; omega
 have h6 := Int.mul_lt_mul_of_pos_right h5 pn
 rw [show n + b + 1 = b + 1 + n by omega, Int.pow_add 10 (b + 1) n, ← Int.mul_assoc]
 rw [show b + 1 + n = n + b + 1 by omega]
 exact h6
theorem ge_end (hm : m ≤ n) (hf : ∀ j : Int, 0 ≤ j → j < n → 48 ≤ f j ∧ f j ≤ 57) (he : ∀ j : Int, 0 ≤ j → j < m → f j = g j) : pv g m * 10 ^ n ≤ pv f n * 10 ^ m := by
 obtain ⟨a, rfl⟩ : ∃ a, n = m + a := ⟨n - m, by omega⟩
 have h1 := (pv_bd (f := f) m a hf).1
 rw [pv_same he] at h1
 have h2 := Int.mul_le_mul_of_nonneg_right h1 (Int.le_of_lt (p10pos m))
 rw [show m + a = a + m by omega, Int.pow_add 10 a m, ← Int.mul_assoc]
 rw [show a + m = m + a by omega]
 exact h2
end
end Go.Proofs.YtneoieigaakoaaaGreatDoor.pf
end
section
namespace Go.Proofs.YtneoieigaakoaaaGreatDoor.pf
open Go.Proofs.YtneoieigaakoaaaGreatDoor.fx
open Go.RowKit Go.Proofs.HHW Go.Proofs.YtneoieigaakoaaaGreatDoorW.PrintWords
theorem lsh_step {n d X T p : Int} (h1 : n * p ≤ T * X) (h2 : T * X < (n + 1) * p) (hp : 0 < p) : (n + d * T) / 10 * (p * 10) ≤ T * (d * p + X) ∧ T * (d * p + X) < ((n + d * T) / 10 + 1) * (p * 10) := by
 have e1 : T * (d * p + X) = d * T * p + T * X := by rw [Int.mul_add, Int.mul_left_comm, ← Int.mul_assoc]
 have hq : (n + d * T) / 10 * 10 ≤ n + d * T ∧ n + d * T + 1 ≤ ((n + d * T) / 10 + 1) * 10 := by
  generalize n + d * T = u; omega
 generalize (n + d * T) / 10 = q at *
 have a := Int.mul_le_mul_of_nonneg_right hq.1 (Int.le_of_lt hp)
 have b := Int.mul_le_mul_of_nonneg_right hq.2 (Int.le_of_lt hp)
 have e2 : q * (p * 10) = q * 10 * p := by rw [Int.mul_comm p, Int.mul_assoc]
 have e3 : (q + 1) * (p * 10) = (q + 1) * 10 * p := by rw [Int.mul_comm p, Int.mul_assoc]
 rw [e1, e2, e3]
 have e4 : (n + d * T) * p = n * p + d * T * p := Int.add_mul ..
 have e5 : (n + d * T + 1) * p = (n + 1) * p + d * T * p := by rw [show n + d * T + 1 = n + 1 + d * T by omega, Int.add_mul]
 rw [e4] at a
 rw [e5] at b
 omega
def Fit (n w : Int) : Prop := n < 10 ^ w.toNat ∧ (1 ≤ w → (10 : Int) ^ (w.toNat - 1) ≤ n)
theorem Fit.one {n w : Int} (h : Fit n w) (hw : 0 ≤ w) (hn : 0 < n) : 1 ≤ w := by
 rcases Int.lt_or_eq_of_le hw with q | q
 ·
  omega
 ·
  subst q; have := h.1; simp at this; omega
theorem Fit.next {n w : Int} (h : Fit n w) (hw : 1 ≤ w) (hn : 0 < n) : Fit (n / 10) (w - 1) := by
 obtain ⟨v, rfl⟩ : ∃ v : Nat, w = v + 1 := ⟨(w - 1).toNat, by omega⟩
 obtain ⟨h1, h2⟩ := h
 have h2 := h2 hw
 rw [show ((v : Int) + 1).toNat = v + 1 by omega] at h1 h2
 rw [show v + 1 - 1 = v by omega] at h2
 rw [Int.pow_succ] at h1
 refine ⟨?_, fun hv => ?_⟩
 ·
  rw [show ((v : Int) + 1 - 1).toNat = v by omega]; omega
 ·
  obtain ⟨u, rfl⟩ : ∃ u : Nat, v = u + 1 := ⟨v - 1, by omega⟩
  rw [Int.pow_succ] at h2
  rw [show ((((u + 1 : Nat) : Int) + 1 - 1).toNat - 1) = u by omega]; omega
theorem Fit.last {n : Int} {w : Int} (h : Fit n w) (hw : w = 1) : 1 ≤ n ∧ n ≤ 9 := by
 subst hw
 obtain ⟨h1, h2⟩ := h
 have h2 := h2 (by omega)
 simp at h1 h2
 omega
theorem Fit.end {n w : Int} (h : Fit n w) (hw : 0 ≤ w) (hn : n = 0) : w = 0 := by
 rcases Int.lt_or_eq_of_le hw with q | q
 ·
  have := h.2 (by omega)
  have := p10pos (w.toNat - 1)
  omega
 ·
  exact q.symm
theorem Fit.zero {n : Int} (h : Fit n 0) (hn : 0 ≤ n) : n = 0 := by
 have := h.1; simp at this; omega
section
variable {T F X : Int} {k m d : Nat} {nd : Nat}
theorem fit_lt (hTF : T * F = 10 ^ k) (hT : 0 < T) (hk : k + 1 = m + d) (hd : 1 ≤ d) (hT1 : (10 : Int) ^ (d - 1) ≤ T) (hn : 1 ≤ nd) (hX : (10 : Int) ^ (nd - 1) ≤ X) (hl : X * 10 ^ m < F * 10 ^ nd) {n : Int} (h1 : n * 10 ^ nd ≤ T * X) (h2 : T * X < (n + 1) * 10 ^ nd) : Fit n ((d : Int) - 1) := by
 have pn := p10pos nd
 have pm := p10pos m
 obtain ⟨e, rfl⟩ : ∃ e, d = e + 1 := ⟨d - 1, by omega⟩
 have ek : k = m + e := by omega
 refine ⟨?_, fun hv => ?_⟩
 ·
  rw [show (((e + 1 : Nat) : Int) - 1).toNat = e by omega]
  have a : n * 10 ^ nd * 10 ^ m ≤ T * X * 10 ^ m := Int.mul_le_mul_of_nonneg_right h1 (Int.le_of_lt pm)
  have b : T * (X * 10 ^ m) < T * (F * 10 ^ nd) := Int.mul_lt_mul_of_pos_left hl hT
  rw [← Int.mul_assoc, ← Int.mul_assoc, hTF, ek, Int.pow_add] at b
  have c : n * (10 ^ nd * 10 ^ m) < 10 ^ e * (10 ^ nd * 10 ^ m) := by
   have e1 : n * (10 ^ nd * 10 ^ m) = n * 10 ^ nd * 10 ^ m := (Int.mul_assoc ..).symm
   have e2 : (10 : Int) ^ e * (10 ^ nd * 10 ^ m) = 10 ^ m * 10 ^ e * 10 ^ nd := by rw [Int.mul_comm (10 ^ nd), ← Int.mul_assoc, Int.mul_comm (10 ^ e)]
   omega
  exact Int.lt_of_mul_lt_mul_right c (Int.le_of_lt (Int.mul_pos pn pm))
 ·
  obtain ⟨u, rfl⟩ : ∃ u : Nat, e = u + 1 := ⟨e - 1, by omega⟩
  obtain ⟨v, rfl⟩ : ∃ v : Nat, nd = v + 1 := ⟨nd - 1, by omega⟩
  rw [show ((((u + 1 + 1 : Nat) : Int) - 1).toNat - 1) = u by omega]
  rw [show u + 1 + 1 - 1 = u + 1 by omega, Int.pow_succ] at hT1
  rw [show v + 1 - 1 = v by omega] at hX
  have pv_ := p10pos v
  have pu := p10pos u
  have a : 10 ^ u * 10 * 10 ^ v ≤ T * X := Int.le_trans (Int.mul_le_mul_of_nonneg_right hT1 (Int.le_of_lt pv_)) (Int.mul_le_mul_of_nonneg_left hX (Int.le_of_lt hT))
  rw [Int.pow_succ] at h2
  have c : 10 ^ u * (10 ^ v * 10) < (n + 1) * (10 ^ v * 10) := by
   have e1 : (10 : Int) ^ u * (10 ^ v * 10) = 10 ^ u * 10 * 10 ^ v := by rw [Int.mul_comm (10 ^ v), Int.mul_assoc]
   omega
  have := Int.lt_of_mul_lt_mul_right c (by omega)
  omega
theorem fit_ge (hTF : T * F = 10 ^ k) (hT : 0 < T) (hk : k + 1 = m + d) (hd : 1 ≤ d) (hT2 : T < 10 ^ d) (hX : X < 10 ^ nd) (hl : F * 10 ^ nd ≤ X * 10 ^ m) {n : Int} (h1 : n * 10 ^ nd ≤ T * X) (h2 : T * X < (n + 1) * 10 ^ nd) : Fit n (d : Int) := by
 have pn := p10pos nd
 have pm := p10pos m
 refine ⟨?_, fun _ => ?_⟩
 ·
  rw [show ((d : Int)).toNat = d by omega]
  have a : T * X < T * 10 ^ nd := Int.mul_lt_mul_of_pos_left hX hT
  have b : n * 10 ^ nd < T * 10 ^ nd := by omega
  have := Int.lt_of_mul_lt_mul_right b (Int.le_of_lt pn)
  omega
 ·
  rw [show ((d : Int)).toNat = d by omega]
  obtain ⟨e, rfl⟩ : ∃ e, d = e + 1 := ⟨d - 1, by omega⟩
  have ek : k = m + e := by omega
  rw [show e + 1 - 1 = e by omega]
  have b : T * (F * 10 ^ nd) ≤ T * (X * 10 ^ m) := Int.mul_le_mul_of_nonneg_left hl (Int.le_of_lt hT)
  rw [← Int.mul_assoc, ← Int.mul_assoc, hTF, ek, Int.pow_add] at b
  have a : T * X * 10 ^ m < (n + 1) * 10 ^ nd * 10 ^ m := Int.mul_lt_mul_of_pos_right h2 pm
  have c : 10 ^ e * (10 ^ nd * 10 ^ m) < (n + 1) * (10 ^ nd * 10 ^ m) := by
   have e1 : (n + 1) * (10 ^ nd * 10 ^ m) = (n + 1) * 10 ^ nd * 10 ^ m := (Int.mul_assoc ..).symm
   have e2 : (10 : Int) ^ e * (10 ^ nd * 10 ^ m) = 10 ^ m * 10 ^ e * 10 ^ nd := by rw [Int.mul_comm (10 ^ nd), ← Int.mul_assoc, Int.mul_comm (10 ^ e)]
   omega
  have := Int.lt_of_mul_lt_mul_right c (Int.le_of_lt (Int.mul_pos pn pm))
  omega
end
def lcN (k : Nat) : Nat := (Go.Pinned.cheatRows.getD k (0, [])).1
def lcS (k : Nat) : ByteArray := ⟨(Go.Pinned.cheatRows.getD k (0, [])).2.toArray⟩
structure LCok (k : Nat) : Prop where
 sum : k + 1 = (lcS k).size + lcN k
 pos : 1 ≤ lcN k ∧ lcN k ≤ 19
 low : (10 : Int) ^ (lcN k - 1) ≤ 2 ^ k
 high : (2 : Int) ^ k < 10 ^ lcN k
 val : (2 : Int) ^ k * pv (HHW.bt (lcS k)) (lcS k).size = 10 ^ k
 dig : ∀ j : Int, 0 ≤ j → j < (lcS k).size → 48 ≤ HHW.bt (lcS k) j ∧ HHW.bt (lcS k) j ≤ 57
 last : HHW.bt (lcS k) ((lcS k).size - 1 : Nat) ≠ 48
 big : (lcS k).size ≤ 100 ∧ 1 ≤ (lcS k).size
def lcB (k : Nat) : Bool := decide (k + 1 = (lcS k).size + lcN k) && decide (1 ≤ lcN k ∧ lcN k ≤ 19) && decide ((10 : Int) ^ (lcN k - 1) ≤ 2 ^ k) && decide ((2 : Int) ^ k < 10 ^ lcN k) && decide ((2 : Int) ^ k * pv (HHW.bt (lcS k)) (lcS k).size = 10 ^ k)
 && (List.range (lcS k).size).all (fun j => decide (48 ≤ HHW.bt (lcS k) (j : Int) ∧ HHW.bt (lcS k) (j : Int) ≤ 57)) && decide (HHW.bt (lcS k) ((lcS k).size - 1 : Nat) ≠ 48) && decide ((lcS k).size ≤ 100 ∧ 1 ≤ (lcS k).size)
theorem lcAll : (List.range 60).all (fun i => lcB (i + 1)) = true := by decide +kernel
theorem lc_ok {k : Nat} (h1 : 1 ≤ k) (h2 : k ≤ 60) : LCok k := by
 have := List.all_eq_true.1 lcAll (k - 1) (List.mem_range.2 (by omega))
 rw [show k - 1 + 1 = k by omega] at this
 unfold lcB at this
 simp only [Bool.and_eq_true, decide_eq_true_eq, List.all_eq_true, List.mem_range] at this
 obtain ⟨⟨⟨⟨⟨⟨⟨a, b⟩, c⟩, d⟩, e⟩, f⟩, g⟩, i⟩ := this
 exact ⟨a, b, c, d, e, fun j x y => by have := f j.toNat (by omega); rwa [Int.toNat_of_nonneg x] at this, g, i⟩
structure PL (glc : Nat) (B : Nat) (wb : World) : Prop where
 lc : ∃ gt c ot, wb.cell? ⟨glc, 0, none⟩ = some (.slice (some ⟨gt, ot, none⟩) 61 c) ∧ glc < B ∧ gt < B ∧ ∀ i, i < 61 → wb.cell? ⟨gt, ot + i * 2, none⟩ = some (.int .i64 (lcN i : Int)) ∧ wb.cell? ⟨gt, ot + i * 2 + 1, none⟩ = some (.string (lcS i))
end Go.Proofs.YtneoieigaakoaaaGreatDoor.pf
end
section
namespace Go.Proofs.YtneoieigaakoaaaGreatDoor.pf
open Go.Proofs.YtneoieigaakoaaaGreatDoor.fx
open Go.RowKit Go.Proofs.HHW Go.Proofs.YtneoieigaakoaaaGreatDoorW.PrintWords
section
variable {D : Int → Int} {nd : Int} {k : Nat}
theorem lsh_pre (hk : 1 ≤ k ∧ k ≤ 60) : (0 : Int) < 2 ^ k := Int.pow_pos (by decide)
theorem lsh_t (hk : 1 ≤ k ∧ k ≤ 60) (hn : 1 ≤ nd) (hd : ∀ i, 0 ≤ i → i < nd → 48 ≤ D i ∧ D i ≤ 57) (h0 : D 0 ≠ 48)
  (hp : ∃ i : Int, 0 ≤ i ∧ i ≤ (nd.toNat : Int) ∧ (∀ j, 0 ≤ j → j < i → D j = HHW.bt (lcS k) j) ∧ i < (lcS k).size ∧ (i = (nd.toNat : Int) ∨ (i < (nd.toNat : Int) ∧ D i < HHW.bt (lcS k) i))) (n : Int)
  (h1 : n * 10 ^ nd.toNat ≤ 2 ^ k * sv D nd nd.toNat) (h2 : 2 ^ k * sv D nd nd.toNat < (n + 1) * 10 ^ nd.toNat) : Fit n ((lcN k : Int) - 1) := by
 have L := lc_ok hk.1 hk.2
 have e : (nd.toNat : Int) = nd := Int.toNat_of_nonneg (by omega)
 have hd' : ∀ j : Int, 0 ≤ j → j < (nd.toNat : Nat) → 48 ≤ D j ∧ D j ≤ 57 := fun j a b => hd j a (by omega)
 have eX : sv D nd nd.toNat = pv D nd.toNat := by rw [pv_eq, e]
 rw [eX] at h1 h2
 obtain ⟨i, a, b, c, d, f⟩ := hp
 obtain ⟨u, rfl⟩ := Int.eq_ofNat_of_zero_le a
 refine fit_lt L.val (lsh_pre hk) L.sum L.pos.1 L.low (nd := nd.toNat) (by omega) (pv_first (by omega) hd' h0) ?_ h1 h2
 rcases f with f | f
 ·
  have hu : u = nd.toNat := by omega
  rw [hu] at c
  exact lt_end (by omega) hd' L.dig c L.last
 ·
  exact lt_dig (i := u) (by omega) (by omega) hd' L.dig c f.2
theorem lsh_f (hk : 1 ≤ k ∧ k ≤ 60) (hn : 1 ≤ nd) (hd : ∀ i, 0 ≤ i → i < nd → 48 ≤ D i ∧ D i ≤ 57)
  (hp : ∃ i : Int, 0 ≤ i ∧ i ≤ (nd.toNat : Int) ∧ (∀ j, 0 ≤ j → j < i → D j = HHW.bt (lcS k) j) ∧ (i = (lcS k).size ∨ (i < (nd.toNat : Int) ∧ i < (lcS k).size ∧ HHW.bt (lcS k) i < D i))) (n : Int)
  (h1 : n * 10 ^ nd.toNat ≤ 2 ^ k * sv D nd nd.toNat) (h2 : 2 ^ k * sv D nd nd.toNat < (n + 1) * 10 ^ nd.toNat) : Fit n (lcN k : Int) := by
 have L := lc_ok hk.1 hk.2
 have e : (nd.toNat : Int) = nd := Int.toNat_of_nonneg (by omega)
 have hd' : ∀ j : Int, 0 ≤ j → j < (nd.toNat : Nat) → 48 ≤ D j ∧ D j ≤ 57 := fun j a b => hd j a (by omega)
 have eX : sv D nd nd.toNat = pv D nd.toNat := by rw [pv_eq, e]
 rw [eX] at h1 h2
 obtain ⟨i, a, b, c, f⟩ := hp
 obtain ⟨u, rfl⟩ := Int.eq_ofNat_of_zero_le a
 refine fit_ge L.val (lsh_pre hk) L.sum L.pos.1 L.high (nd := nd.toNat) (pv_pos hd').2 ?_ h1 h2
 rcases f with f | f
 ·
  have hu : u = (lcS k).size := by omega
  rw [hu] at c b
  exact ge_end (by omega) hd' c
 ·
  exact Int.le_of_lt (lt_dig (i := u) (by omega) (by omega) L.dig hd' (fun j x y => (c j x y).symm) f.2.2)
end
def Dh (E : Int → Int) (lo M : Int) : Prop := ∀ i, lo ≤ i → i < M → i < 800 → 48 ≤ E i ∧ E i ≤ 57
theorem Dh.upd {E : Int → Int} {x y M v : Int} (h : Dh E y M) (hy : y = x + 1) (hv : 48 ≤ v ∧ v ≤ 57) : Dh (pf.upd E x v) x M := fun i a b c => by
 unfold pf.upd
 split
 ·
  exact hv
 ·
  exact h i (by omega) b c
theorem Dh.far {E : Int → Int} {x y M : Int} (h : 800 ≤ x) : Dh E x M := fun i a b c => by omega
theorem Dh.ds {E : Int → Int} {M m : Int} (h : Dh E 0 M) (h1 : m ≤ M) (h2 : m ≤ 800) : Ds E 0 m := fun i a b => h i a (by omega) (by omega)
theorem keep_lo {D E : Int → Int} {x r v : Int} (h : ∀ i, 0 ≤ i → i ≤ r → E i = D i) (hx : r ≤ x) : ∀ i, 0 ≤ i → i ≤ r - 1 → pf.upd E x v i = D i := fun i a b => by
 unfold pf.upd
 rw [if_neg (by omega)]
 exact h i a (by omega)
theorem mul_k {x : Int} {k : Nat} (h : 0 ≤ x ∧ x ≤ 9) : 0 ≤ x * 2 ^ k ∧ x * 2 ^ k ≤ 9 * 2 ^ k := by
 have hp : (0 : Int) < 2 ^ k := Int.pow_pos (by decide)
 exact ⟨Int.mul_nonneg h.1 (Int.le_of_lt hp), Int.mul_le_mul_of_nonneg_right h.2 (Int.le_of_lt hp)⟩
theorem mul_k2 {x : Int} {k : Nat} (h : 0 ≤ x) (hk : (2 : Int) ≤ 2 ^ k) : x * 2 ≤ x * 2 ^ k := Int.mul_le_mul_of_nonneg_left hk h
theorem lsh_inv {D E : Int → Int} {nd r n : Int} {c k : Nat} (hr : r = nd - 1 - c) (he : E r = D r) (hv : n * 10 ^ c ≤ 2 ^ k * sv D nd c ∧ 2 ^ k * sv D nd c < (n + 1) * 10 ^ c) :
  (n + (E r - 48) * 2 ^ k) / 10 * 10 ^ (c + 1) ≤ 2 ^ k * sv D nd (c + 1) ∧ 2 ^ k * sv D nd (c + 1) < ((n + (E r - 48) * 2 ^ k) / 10 + 1) * 10 ^ (c + 1) := by
 have h := lsh_step (d := E r - 48) hv.1 hv.2 (p10pos c)
 have e : sv D nd (c + 1) = (E r - 48) * 10 ^ c + sv D nd c := by simp only [sv]; rw [he, hr]
 rw [e, Int.pow_succ]
 exact h
theorem lsh_z {D E : Int → Int} {x r v : Int} (hx : x = 0) (hr : r = 0) (he : E r = D r) (h0 : D 0 ≠ 48) (hd : 48 ≤ D r) (hm : (E r - 48) * 2 ≤ v - 48) (hv : 48 ≤ v) : D 0 < pf.upd E x v 0 := by
 subst hx hr
 unfold pf.upd
 rw [if_pos rfl]
 omega
theorem lsh_y {E : Int → Int} {y n : Int} (hy : y = 1) (h : Fit n y) : pf.upd E (y - 1) (n - 10 * (n / 10) + 48) 0 ≠ 48 := by
 have := h.last hy
 subst hy
 unfold pf.upd
 rw [if_pos (by decide)]
 omega
end Go.Proofs.YtneoieigaakoaaaGreatDoor.pf
end
section
namespace Go.Proofs.YtneoieigaakoaaaGreatDoor.pf
open Go.Proofs.YtneoieigaakoaaaGreatDoor.fx
open Go.RowKit Go.Proofs.HHW Go.Proofs.YtneoieigaakoaaaGreatDoorW.PrintWords
namespace d4
theorem ag155 : aggB Tryz.prog 155 = some false := by kernel_rfl
theorem fa154_0 (w : World) (g o : Nat) : (Instr.fieldAt 154 (.pointer (some ⟨g, o, none⟩)) 0).run Tryz.prog w = .ok (.pointer (some ⟨g, o + 0, none⟩)) w := by kernel_rfl
theorem fa154_1 (w : World) (g o : Nat) : (Instr.fieldAt 154 (.pointer (some ⟨g, o, none⟩)) 1).run Tryz.prog w = .ok (.pointer (some ⟨g, o + 1, none⟩)) w := by kernel_rfl
theorem sz154 : szB Tryz.prog 154 = some 2 := by kernel_rfl
def ls3 (k : Nat) (D : Int → Int) (nd dp : Int) (tr : Bool) (dl : Int) (E : Int → Int) (tz : Bool) (mz : Int) : (Int → Int) × Int × Int × Bool := (E, (d1.trm E mz (dp + dl)).1, (d1.trm E mz (dp + dl)).2, tz)
def ls2 (k : Nat) (D : Int → Int) (nd dp : Int) (tr : Bool) (dl : Int) (E : Int → Int) (tz : Bool) : (Int → Int) × Int × Int × Bool := (bif (decide ((nd + dl) ≥ 800)) then ls3 k D nd dp tr dl E tz 800 else ls3 k D nd dp tr dl E tz (nd + dl))
def lsb (k : Nat) (D : Int → Int) (nd dp : Int) (tr : Bool) : Nat → Int → Int → Int → (Int → Int) → Bool → (Int → Int) × Int × Int × Bool
 | 0, _, _, _, _, _ => default
 | fu + 1, y, n, dl, E, tz => (bif (decide (n > 0)) then lsb k D nd dp tr fu (y - 1) (n / 10) dl (upd E ((y - 1)) ((n - (10 * (n / 10))) + 48)) tz else ls2 k D nd dp tr dl E tz)
def ls1 (k : Nat) (D : Int → Int) (nd dp : Int) (tr : Bool) (y : Int) (n : Int) (dl : Int) (E : Int → Int) (tz : Bool) : (Int → Int) × Int × Int × Bool := lsb k D nd dp tr ((y.toNat) + 1) y n dl E tz
def lsa (k : Nat) (D : Int → Int) (nd dp : Int) (tr : Bool) : Nat → Int → Int → Int → Nat → Int → (Int → Int) → Bool → (Int → Int) × Int × Int × Bool
 | 0, _, _, _, _, _, _, _ => default
 | fu + 1, r, y, n, c, dl, E, tz => (bif (decide (r ≥ 0)) then (bif (decide ((y - 1) < 800)) then lsa k D nd dp tr fu (r - 1) (y - 1) ((n + (((E r) - 48) * 2 ^ k)) / 10) (c + 1) dl (upd E ((y - 1)) (((n + (((E r) - 48) * 2 ^ k)) - (10 * ((n + (((E r) - 48) * 2 ^ k)) / 10))) + 48)) tz else (bif (((n + (((E r) - 48) * 2 ^ k)) - (10 * ((n + (((E r) - 48) * 2 ^ k)) / 10))) != 0) then lsa k D nd dp tr fu (r - 1) (y - 1) ((n + (((E r) - 48) * 2 ^ k)) / 10) (c + 1) dl E true else lsa k D nd dp tr fu (r - 1) (y - 1) ((n + (((E r) - 48) * 2 ^ k)) / 10) (c + 1) dl E tz)) else ls1 k D nd dp tr y n dl E tz)
def ls0 (k : Nat) (D : Int → Int) (nd dp : Int) (tr : Bool) (dl : Int) : (Int → Int) × Int × Int × Bool := lsa k D nd dp tr ((((nd - 1) + 1).toNat) + 1) (nd - 1) (nd + dl) 0 0 dl D tr
def lsh (k : Nat) (D : Int → Int) (nd dp : Int) (tr : Bool) : (Int → Int) × Int × Int × Bool := (bif (d1.pil D nd.toNat (lcS k)) then ls0 k D nd dp tr (((lcN k : Nat) : Int) - 1) else ls0 k D nd dp tr ((lcN k : Nat) : Int))
set_option maxHeartbeats 2000000 in
theorem lsh_ (wb w0 : World) (B : Nat) (L0 : List (Nat × Obj)) (hL : PL 14 B wb) (gd : Nat) (D : Int → Int) (nd dp : Int) (ng tr : Bool) (k : Nat) (hk : 1 ≤ k ∧ k ≤ 60) (hN : 1 ≤ nd ∧ nd ≤ 800) (hg : Dg D nd) (hp : -1000000000000000 ≤ dp ∧ dp ≤ 1000000000000000) (H : HH B wb w0 ((gd, .cells (decC D nd dp ng tr) 113 (0, 0)) :: L0)) : Calls Tryz.prog 84 #[.pointer (some ⟨gd, 0, none⟩), .int .u64 (k : Int)] w0 fun e w' => e = .returned (.tuple #[]) ∧ HH B wb w' ((gd, .cells (decC (lsh k D nd dp tr).1 (lsh k D nd dp tr).2.1 (lsh k D nd dp tr).2.2.1 ng (lsh k D nd dp tr).2.2.2) 113 (0, 0)) :: L0) ∧ (Dg (lsh k D nd dp tr).1 (lsh k D nd dp tr).2.1 ∧ 1 ≤ (lsh k D nd dp tr).2.1 ∧ (lsh k D nd dp tr).2.1 ≤ 800) ∧ (dp ≤ (lsh k D nd dp tr).2.2.1 ∧ (lsh k D nd dp tr).2.2.1 ≤ dp + 19 ∧ 20 * dp + D 0 < 20 * (lsh k D nd dp tr).2.2.1 + (lsh k D nd dp tr).1 0) := by
 generalize hR : lsh k D nd dp tr = R
 have hpk := pow_k hk.1 hk.2
 have hdig := hg.1
 have hD0 : D 0 ≠ 48 := hg.2 (by omega)
 have hlc := lc_ok hk.1 hk.2
 have hlp := hlc.pos
 refine c_enter (args := [.pointer (some ⟨gd, 0, none⟩), .int .u64 (k : Int)]) (k := 135) Tryz.func84 rfl rfl rfl (fun a S => ?_)
 refine wp_seq ?_
 refine c_region ?_
 obtain ⟨gt, ct, ot, ht1, ht2, ht3, ht4⟩ := hL.lc
 refine l_read S H (r_loadG rfl ht1 ht2 ag155) rfl rfl rfl ?_; clear S a; intro a S
 refine l_mv 1 S rfl ?_; clear S a; intro a S
 refine l_pure S (p_indexAddr rfl rfl (fun w => ia_slice Tryz.underlying155 sz154 (by omega) (by omega))) rfl rfl rfl ?_; clear S a; intro a S
 refine l_pure S (p_fieldAddr rfl (fun w => fa154_0 w _ _)) rfl rfl rfl ?_; clear S a; intro a S
 refine l_read S H (r_loadG rfl (show _ = some (Value.int .i64 (lcN k : Int)) from by have h := (ht4 k (by omega)).1; rw [show ot + ((k : Nat) : Int).toNat * 2 + 0 = ot + k * 2 + 0 by omega]; exact h) ht3 ag3) rfl rfl rfl ?_; clear S a; intro a S
 refine l_mv 1 S rfl ?_; clear S a; intro a S
 refine l_nil ?_
 refine e_then ?_
 refine c_cut (fun a w => ∃ dl : Int, SL a 137 [] [(0, .pointer (some ⟨gd, 0, none⟩)), (1, .int .u64 (k : Int)), (4, .int .i64 dl)] ∧ HH B wb w ((gd, .cells (decC D nd dp ng tr) 113 (0, 0)) :: L0) ∧ ls0 k D nd dp tr dl = R ∧ ((0 ≤ dl ∧ dl ≤ 19) ∧ (∀ n : Int, n * 10 ^ nd.toNat ≤ 2 ^ k * sv D nd nd.toNat → 2 ^ k * sv D nd nd.toNat < (n + 1) * 10 ^ nd.toNat → Fit n dl))) ?_ ?_
 ·
  clear S a H hR; rintro a w ⟨dl, S, H, hR, hinv⟩
  obtain ⟨hdl, hNT⟩ := hinv
  refine wp_seq ?_
  refine c_region ?_
  refine l_mv 2 S rfl ?_; clear S a; intro a S
  refine l_pure S (p_fieldAddr rfl (fun w => fa113_1 w _ _)) rfl rfl rfl ?_; clear S a; intro a S
  refine l_read S H (r_load rfl List.mem_cons_self (show _ = some (.int .i64 nd) from dec_nd) (fun w hc => ld1 ag3 hc)) rfl rfl rfl ?_; clear S a; intro a S
  refine l_mv 1 S rfl ?_; clear S a; intro a S
  refine l_nil ?_
  refine e_then ?_
  refine wp_seq ?_
  refine c_region ?_
  refine l_mv 2 S rfl ?_; clear S a; intro a S
  refine l_pure S (p_fieldAddr rfl (fun w => fa113_1 w _ _)) rfl rfl rfl ?_; clear S a; intro a S
  refine l_read S H (r_load rfl List.mem_cons_self (show _ = some (.int .i64 nd) from dec_nd) (fun w hc => ld1 ag3 hc)) rfl rfl rfl ?_; clear S a; intro a S
  refine l_mv 1 S rfl ?_; clear S a; intro a S
  refine l_pure S (p_add (r := (nd + dl)) rfl rfl (IntWalk.i64_in _ (by omega))) rfl rfl rfl ?_; clear S a; intro a S
  refine l_mv 1 S rfl ?_; clear S a; intro a S
  refine l_nil ?_
  refine e_then ?_
  refine wp_seq ?_
  refine c_region ?_
  refine l_mv 1 S rfl ?_; clear S a; intro a S
  refine l_nil ?_
  refine e_then ?_
  refine c_cut (fun a w => ∃ y : Int, ∃ n : Int, ∃ dz : Int, ∃ E : Int → Int, ∃ tz : Bool, SL a 137 [] [(0, .pointer (some ⟨gd, 0, none⟩)), (1, .int .u64 (k : Int)), (6, .int .i64 y), (7, .int .u64 n), (4, .int .i64 dz)] ∧ HH B wb w ((gd, .cells (decC E nd dp ng tz) 113 (0, 0)) :: L0) ∧ ls1 k D nd dp tr y n dz E tz = R ∧ (dl = dz ∧ y = dz ∧ (0 ≤ n ∧ n < 2 ^ k) ∧ Fit n dz ∧ Dh E dz (nd + dz) ∧ (dz = 0 → D 0 < E 0))) ?_ ?_
  ·
   clear S a H hR; rintro a w ⟨y, n, dz, E, tz, S, H, hR, hinv⟩
   obtain ⟨hdz, hy, hn, hft, hF, hz⟩ := hinv
   subst hdz
   refine c_cut (fun a w => ∃ dz : Int, ∃ E : Int → Int, ∃ tz : Bool, SL a 137 [] [(0, .pointer (some ⟨gd, 0, none⟩)), (1, .int .u64 (k : Int)), (4, .int .i64 dz)] ∧ HH B wb w ((gd, .cells (decC E nd dp ng tz) 113 (0, 0)) :: L0) ∧ ls2 k D nd dp tr dz E tz = R ∧ (dl = dz ∧ Dh E 0 (nd + dz) ∧ (0 < dz → E 0 ≠ 48) ∧ (dz = 0 → D 0 < E 0))) ?_ ?_
   ·
    clear S a H hR; rintro a w ⟨dz, E, tz, S, H, hR, hinv⟩
    obtain ⟨hdz, hF, hz1, hz⟩ := hinv
    subst hdz
    refine wp_seq ?_
    refine c_region ?_
    refine l_mv 2 S rfl ?_; clear S a; intro a S
    refine l_pure S (p_fieldAddr rfl (fun w => fa113_1 w _ _)) rfl rfl rfl ?_; clear S a; intro a S
    refine l_read S H (r_load rfl List.mem_cons_self (show _ = some (.int .i64 nd) from dec_nd) (fun w hc => ld1 ag3 hc)) rfl rfl rfl ?_; clear S a; intro a S
    refine l_mv 1 S rfl ?_; clear S a; intro a S
    refine l_pure S (p_add (r := (nd + dl)) rfl rfl (IntWalk.i64_in _ (by omega))) rfl rfl rfl ?_; clear S a; intro a S
    refine l_mv 1 S rfl ?_; clear S a; intro a S
    refine l_pure S (p_fieldAddr rfl (fun w => fa113_1 w _ _)) rfl rfl rfl ?_; clear S a; intro a S
    refine l_store S H rfl rfl rfl (Upd.cast (set_nd (v := (nd + dl))) .here) (by rw [dec_size]; omega) (fun w u hc hz => st1 sz3 rfl hc hz) rfl rfl ?_; clear S a H; intro w a H S
    refine l_nil ?_
    refine e_then ?_
    refine c_cut (fun a w => ∃ dz : Int, ∃ E : Int → Int, ∃ tz : Bool, ∃ mz : Int, SL a 137 [] [(0, .pointer (some ⟨gd, 0, none⟩)), (1, .int .u64 (k : Int)), (4, .int .i64 dz)] ∧ HH B wb w ((gd, .cells (decC E mz dp ng tz) 113 (0, 0)) :: L0) ∧ ls3 k D nd dp tr dz E tz mz = R ∧ (dl = dz ∧ (1 ≤ mz ∧ mz ≤ 800) ∧ Ds E 0 mz ∧ (0 < dz → E 0 ≠ 48) ∧ (dz = 0 → D 0 < E 0))) ?_ ?_
    ·
     clear S a H hR; rintro a w ⟨dz, E, tz, mz, S, H, hR, hinv⟩
     obtain ⟨hdz, hm, hE, hz1, hz⟩ := hinv
     subst hdz
     refine wp_seq ?_
     refine c_region ?_
     refine l_mv 2 S rfl ?_; clear S a; intro a S
     refine l_pure S (p_fieldAddr rfl (fun w => fa113_2 w _ _)) rfl rfl rfl ?_; clear S a; intro a S
     refine l_read S H (r_load rfl List.mem_cons_self (show _ = some (.int .i64 dp) from dec_dp) (fun w hc => ld1 ag3 hc)) rfl rfl rfl ?_; clear S a; intro a S
     refine l_mv 1 S rfl ?_; clear S a; intro a S
     refine l_pure S (p_add (r := (dp + dl)) rfl rfl (IntWalk.i64_in _ (by omega))) rfl rfl rfl ?_; clear S a; intro a S
     refine l_mv 1 S rfl ?_; clear S a; intro a S
     refine l_pure S (p_fieldAddr rfl (fun w => fa113_2 w _ _)) rfl rfl rfl ?_; clear S a; intro a S
     refine l_store S H rfl rfl rfl (Upd.cast (set_dp (v := (dp + dl))) .here) (by rw [dec_size]; omega) (fun w u hc hz => st1 sz3 rfl hc hz) rfl rfl ?_; clear S a H; intro w a H S
     refine l_nil ?_
     refine e_then ?_
     refine c_region ?_
     refine l_mv 1 S rfl ?_; clear S a; intro a S
     have hcon := d1.trm_ wb _ B L0 gd E mz (dp + dl) ng tz (by omega) H
     refine l_call S rfl rfl Tryz.func92 rfl rfl (hcon) rfl rfl rfl ?_
     rintro e w ⟨rfl, hH, ht1, ht2, ht3⟩
     refine ⟨_, rfl, ?_⟩; clear S a; intro a S
     clear H hcon; have H := hH; clear hH
     refine l_nil ?_
     have hE0 := hE 0 (by omega) (by omega)
     have hD1 := hdig 0 (by omega) (by omega)
     have hE48 : E 0 ≠ 48 := by
      rcases Int.lt_or_eq_of_le hdl.1 with q | q
      ·
       exact hz1 q
      ·
       have := hz q.symm; omega
     have hfin : 20 * dp + D 0 < 20 * (dp + dl) + E 0 := by
      rcases Int.lt_or_eq_of_le hdl.1 with q | q
      ·
       omega
      ·
       have := hz q.symm; omega
     obtain ⟨ht4, ht5⟩ := ht3 hE48 (by omega)
     have eR : R = (E, (d1.trm E mz (dp + dl)).1, (d1.trm E mz (dp + dl)).2, tz) := by rw [← hR]; simp only [ls3, cond_true, cond_false]
     clear hR; subst eR
     exact r_end0 S rfl ⟨rfl, H, ⟨⟨fun i a b => hE i a (by dsimp only at b; omega), fun _ => hE48⟩, by dsimp only; omega⟩, by dsimp only; rw [ht5]; omega⟩
    ·
     refine wp_seq ?_
     refine c_region ?_
     refine l_mv 2 S rfl ?_; clear S a; intro a S
     refine l_pure S (p_fieldAddr rfl (fun w => fa113_1 w _ _)) rfl rfl rfl ?_; clear S a; intro a S
     refine l_read S H (r_load rfl List.mem_cons_self (show _ = some (.int .i64 (nd + dl)) from dec_nd) (fun w hc => ld1 ag3 hc)) rfl rfl rfl ?_; clear S a; intro a S
     refine l_pure S (p_geq rfl rfl) rfl rfl rfl ?_; clear S a; intro a S
     refine l_nil ?_
     refine e_then ?_
     refine c_cond S rfl (fun bc2 => ?_) (fun bc2 => ?_)
     ·
      have c2 := bc2
      have c2 := of_decide_eq_true c2
      refine c_region ?_
      refine l_mv 2 S rfl ?_; clear S a; intro a S
      refine l_pure S (p_fieldAddr rfl (fun w => fa113_1 w _ _)) rfl rfl rfl ?_; clear S a; intro a S
      refine l_store S H rfl rfl rfl (Upd.cast (set_nd (v := 800)) .here) (by rw [dec_size]; omega) (fun w u hc hz => st1 sz3 rfl hc hz) rfl rfl ?_; clear S a H; intro w a H S
      refine l_nil ?_
      refine e_then ?_
      exact ⟨dl, E, tz, 800, S.only ⟨rfl, rfl, rfl, trivial⟩, H, by rw [← hR]; simp only [ls2, bc2, cond_true, cond_false], ⟨rfl, by omega, hF.ds (by omega) (by omega), hz1, hz⟩⟩
     ·
      have c2 := bc2
      have c2 := of_decide_eq_false c2
      refine wp_skip ?_
      refine e_then ?_
      exact ⟨dl, E, tz, (nd + dl), S.only ⟨rfl, rfl, rfl, trivial⟩, H, by rw [← hR]; simp only [ls2, bc2, cond_true, cond_false], ⟨rfl, by omega, hF.ds (by omega) (by omega), hz1, hz⟩⟩
   ·
    refine wp_block ?_
    refine c_loop (σ := Nat × Int × Int × Int × (Int → Int) × Bool) (fun s_ a w => match s_ with | (k_, y, n, dz, E, tz) => SL a 137 [] [(0, .pointer (some ⟨gd, 0, none⟩)), (1, .int .u64 (k : Int)), (6, .int .i64 y), (7, .int .u64 n), (4, .int .i64 dz)] ∧ HH B wb w ((gd, .cells (decC E nd dp ng tz) 113 (0, 0)) :: L0) ∧ (lsb k D nd dp tr k_ y n dz E tz = R ∧ y.toNat < k_ ∧ (dl = dz ∧ (0 ≤ y ∧ y ≤ dz) ∧ (0 ≤ n ∧ n < 2 ^ k) ∧ Fit n y ∧ Dh E y (nd + dz) ∧ (y < dz → y = 0 → E 0 ≠ 48) ∧ (dz = 0 → D 0 < E 0)))) (fun s_ => s_.1) ((y.toNat) + 1, y, n, dl, E, tz) ⟨S.only ⟨rfl, rfl, rfl, rfl, rfl, trivial⟩, H, by rw [← hR]; simp only [ls1, cond_true, cond_false], by omega, ⟨rfl, by omega, by omega, by rw [hy]; exact hft, by rw [hy]; exact hF, fun a b => by omega, hz⟩⟩ ?_
    clear S a H hR; rintro ⟨fu, y, n, dz, E, tz⟩ a w ⟨S, H, hR, hk, hinv⟩
    obtain ⟨fu, rfl⟩ : ∃ j, fu = j + 1 := ⟨fu - 1, by omega⟩
    obtain ⟨hdz, hy, hn, hft, hF, hz1, hz⟩ := hinv
    subst hdz
    refine wp_seq ?_
    refine wp_seq ?_
    refine c_region ?_
    refine l_mv 1 S rfl ?_; clear S a; intro a S
    refine l_pure S (p_gtr rfl rfl) rfl rfl rfl ?_; clear S a; intro a S
    refine l_nil ?_
    refine e_then ?_
    refine c_cond S rfl (fun bc4 => ?_) (fun bc4 => ?_)
    ·
     have c4 := bc4
     have c4 := of_decide_eq_true c4
     have hy1 := hft.one hy.1 (by omega)
     refine wp_skip ?_
     refine e_then ?_
     refine wp_block ?_
     refine wp_seq ?_
     refine c_region ?_
     refine l_mv 1 S rfl ?_; clear S a; intro a S
     refine l_pure S (p_quo (r := (n / 10)) rfl rfl (by omega) (quoI (by omega) (by omega))) rfl rfl rfl ?_; clear S a; intro a S
     refine l_mv 1 S rfl ?_; clear S a; intro a S
     refine l_nil ?_
     refine e_then ?_
     refine wp_seq ?_
     refine c_region ?_
     refine l_mv 2 S rfl ?_; clear S a; intro a S
     refine l_pure S (p_mul (r := (10 * (n / 10))) rfl rfl (IntWalk.u64_in _ (by omega))) rfl rfl rfl ?_; clear S a; intro a S
     refine l_pure S (p_sub (r := (n - (10 * (n / 10)))) rfl rfl (IntWalk.u64_in _ (by omega))) rfl rfl rfl ?_; clear S a; intro a S
     refine l_mv 1 S rfl ?_; clear S a; intro a S
     refine l_nil ?_
     refine e_then ?_
     refine wp_seq ?_
     refine c_region ?_
     refine l_mv 1 S rfl ?_; clear S a; intro a S
     refine l_pure S (p_sub (r := (y - 1)) rfl rfl (IntWalk.i64_in _ (by omega))) rfl rfl rfl ?_; clear S a; intro a S
     refine l_mv 1 S rfl ?_; clear S a; intro a S
     refine l_nil ?_
     refine e_then ?_
     refine wp_seq ?_
     refine wp_seq ?_
     refine c_region ?_
     refine l_mv 1 S rfl ?_; clear S a; intro a S
     refine l_pure S (p_lss rfl rfl) rfl rfl rfl ?_; clear S a; intro a S
     refine l_nil ?_
     refine e_then ?_
     refine c_cond S rfl (fun c6 => ?_) (fun c6 => by have c6 := of_decide_eq_false c6; exfalso; omega)
     have c6 := of_decide_eq_true c6
     refine c_region ?_
     refine l_mv 3 S rfl ?_; clear S a; intro a S
     refine l_pure S (p_add (r := ((n - (10 * (n / 10))) + 48)) rfl rfl (IntWalk.u64_in _ (by omega))) rfl rfl rfl ?_; clear S a; intro a S
     refine l_pure S (p_conv rfl (fun w => cv_int (Tryz.underlying87) (Tryz.underlying5) (r := ((n - (10 * (n / 10))) + 48)) (IntWalk.u8_in _ (by omega)))) rfl rfl rfl ?_; clear S a; intro a S
     refine l_mv 1 S rfl ?_; clear S a; intro a S
     refine l_pure S (p_fieldAddr rfl (fun w => fa113_0 w _ _)) rfl rfl rfl ?_; clear S a; intro a S
     refine l_pure S (p_indexAddr rfl rfl (fun w => ia_array Tryz.underlying111 sz5 (by omega) (by omega))) rfl rfl rfl ?_; clear S a; intro a S
     refine l_store S H rfl rfl rfl (Upd.cast (dec_set (X := (y - 1)) (v := ((n - (10 * (n / 10))) + 48)) (by omega) (by omega)) .here) (by rw [dec_size]; omega) (fun w u hc hz => st1 sz5 rfl hc hz) rfl rfl ?_; clear S a H; intro w a H S
     refine l_nil ?_
     refine e_then ?_
     refine c_region ?_
     refine l_mv 2 S rfl ?_; clear S a; intro a S
     refine l_nil ?_
     refine e_in 3 ?_
     refine e_then ?_
     exact ⟨(fu, (y - 1), (n / 10), dl, (upd E ((y - 1)) ((n - (10 * (n / 10))) + 48)), tz), ⟨S.only ⟨rfl, rfl, rfl, rfl, rfl, trivial⟩, H, by rw [← hR]; simp only [lsb, bc4, cond_true, cond_false], by omega, ⟨rfl, by omega, by omega, hft.next hy1 (by omega), hF.upd (by omega) (by omega), fun a b => lsh_y (by omega) hft, fun h => by omega⟩⟩, Nat.lt_succ_self fu⟩
    ·
     have c4 := bc4
     have c4 := of_decide_eq_false c4
     refine wp_exit ?_
     refine e_then_exit ?_
     refine e_then_exit ?_
     refine e_in_exit ?_
     refine e_then ?_
     have hy0 := hft.end hy.1 (by omega)
     exact ⟨dl, E, tz, S.only ⟨rfl, rfl, rfl, trivial⟩, H, by rw [← hR]; simp only [lsb, bc4, cond_true, cond_false], ⟨rfl, by rw [hy0] at hF; exact hF, fun h => hz1 (by omega) hy0, hz⟩⟩
  ·
   refine wp_seq ?_
   refine c_region ?_
   refine l_mv 1 S rfl ?_; clear S a; intro a S
   refine l_pure S (p_sub (r := (nd - 1)) rfl rfl (IntWalk.i64_in _ (by omega))) rfl rfl rfl ?_; clear S a; intro a S
   refine l_mv 1 S rfl ?_; clear S a; intro a S
   refine l_nil ?_
   refine e_then ?_
   refine wp_block ?_
   refine c_loop (σ := Nat × Int × Int × Int × Nat × Int × (Int → Int) × Bool) (fun s_ a w => match s_ with | (k_, r, y, n, c, dz, E, tz) => SL a 137 [] [(0, .pointer (some ⟨gd, 0, none⟩)), (1, .int .u64 (k : Int)), (5, .int .i64 r), (6, .int .i64 y), (7, .int .u64 n), (4, .int .i64 dz)] ∧ HH B wb w ((gd, .cells (decC E nd dp ng tz) 113 (0, 0)) :: L0) ∧ (lsa k D nd dp tr k_ r y n c dz E tz = R ∧ (r + 1).toNat < k_ ∧ (dl = dz ∧ (-1 ≤ r ∧ r < nd) ∧ r = nd - 1 - c ∧ y = r + 1 + dz ∧ (0 ≤ n ∧ n < 2 ^ k) ∧ (n * 10 ^ c ≤ 2 ^ k * sv D nd c ∧ 2 ^ k * sv D nd c < (n + 1) * 10 ^ c) ∧ (∀ i, 0 ≤ i → i ≤ r → E i = D i) ∧ Dh E (r + 1 + dz) (nd + dz) ∧ (dz = 0 → r = -1 → n = 0 → D 0 < E 0)))) (fun s_ => s_.1) ((((nd - 1) + 1).toNat) + 1, (nd - 1), (nd + dl), 0, 0, dl, D, tr) ⟨S.only ⟨rfl, rfl, rfl, rfl, rfl, rfl, trivial⟩, H, by rw [← hR]; simp only [ls0, cond_true, cond_false], by omega, ⟨rfl, by omega, by omega, by omega, by omega, by simp [sv], fun i a b => rfl, fun i a b c => by omega, fun a b c => by omega⟩⟩ ?_
   clear S a H hR; rintro ⟨fu, r, y, n, c, dz, E, tz⟩ a w ⟨S, H, hR, hk, hinv⟩
   obtain ⟨fu, rfl⟩ : ∃ j, fu = j + 1 := ⟨fu - 1, by omega⟩
   obtain ⟨hdz, hr, hc, hy, hn, hv, hE, hF, hz⟩ := hinv
   subst hdz
   refine wp_seq ?_
   refine wp_seq ?_
   refine c_region ?_
   refine l_mv 1 S rfl ?_; clear S a; intro a S
   refine l_pure S (p_geq rfl rfl) rfl rfl rfl ?_; clear S a; intro a S
   refine l_nil ?_
   refine e_then ?_
   refine c_cond S rfl (fun bc8 => ?_) (fun bc8 => ?_)
   ·
    have c8 := bc8
    have c8 := of_decide_eq_true c8
    have her := hE r (by omega) (by omega)
    have hdr := hdig r (by omega) (by omega)
    refine wp_skip ?_
    refine e_then ?_
    refine wp_seq ?_
    refine wp_block ?_
    refine wp_seq ?_
    refine c_region ?_
    refine l_mv 4 S rfl ?_; clear S a; intro a S
    refine l_pure S (p_fieldAddr rfl (fun w => fa113_0 w _ _)) rfl rfl rfl ?_; clear S a; intro a S
    refine l_pure S (p_indexAddr rfl rfl (fun w => ia_array Tryz.underlying111 sz5 (by omega) (by omega))) rfl rfl rfl ?_; clear S a; intro a S
    refine l_read S H (r_load rfl List.mem_cons_self (dec_at (X := r) (by omega) (by omega)) (fun w hc => ld1 ag5 hc)) rfl rfl rfl ?_; clear S a; intro a S
    refine l_pure S (p_conv rfl (fun w => cv_int (Tryz.underlying5) (Tryz.underlying87) (r := (E r)) (IntWalk.u64_in _ (by omega)))) rfl rfl rfl ?_; clear S a; intro a S
    refine l_pure S (p_sub (r := ((E r) - 48)) rfl rfl (IntWalk.u64_in _ (by omega))) rfl rfl rfl ?_; clear S a; intro a S
    refine l_mv 1 S rfl ?_; clear S a; intro a S
    have hmk := mul_k (x := ((E r) - 48)) (k := k) (by omega)
    have hmk2 := mul_k2 (x := ((E r) - 48)) (k := k) (by omega) hpk.1
    refine l_pure S (p_shl (r := (((E r) - 48) * 2 ^ k)) rfl rfl (by omega) (shlU (k := k) rfl (by omega) (by omega))) rfl rfl rfl ?_; clear S a; intro a S
    refine l_pure S (p_add (r := (n + (((E r) - 48) * 2 ^ k))) rfl rfl (IntWalk.u64_in _ (by omega))) rfl rfl rfl ?_; clear S a; intro a S
    refine l_mv 1 S rfl ?_; clear S a; intro a S
    refine l_nil ?_
    refine e_then ?_
    refine wp_seq ?_
    refine c_region ?_
    refine l_mv 1 S rfl ?_; clear S a; intro a S
    refine l_pure S (p_quo (r := ((n + (((E r) - 48) * 2 ^ k)) / 10)) rfl rfl (by omega) (quoI (by omega) (by omega))) rfl rfl rfl ?_; clear S a; intro a S
    refine l_mv 1 S rfl ?_; clear S a; intro a S
    refine l_nil ?_
    refine e_then ?_
    refine wp_seq ?_
    refine c_region ?_
    refine l_mv 2 S rfl ?_; clear S a; intro a S
    refine l_pure S (p_mul (r := (10 * ((n + (((E r) - 48) * 2 ^ k)) / 10))) rfl rfl (IntWalk.u64_in _ (by omega))) rfl rfl rfl ?_; clear S a; intro a S
    refine l_pure S (p_sub (r := ((n + (((E r) - 48) * 2 ^ k)) - (10 * ((n + (((E r) - 48) * 2 ^ k)) / 10)))) rfl rfl (IntWalk.u64_in _ (by omega))) rfl rfl rfl ?_; clear S a; intro a S
    refine l_mv 1 S rfl ?_; clear S a; intro a S
    refine l_nil ?_
    refine e_then ?_
    refine wp_seq ?_
    refine c_region ?_
    refine l_mv 1 S rfl ?_; clear S a; intro a S
    refine l_pure S (p_sub (r := (y - 1)) rfl rfl (IntWalk.i64_in _ (by omega))) rfl rfl rfl ?_; clear S a; intro a S
    refine l_mv 1 S rfl ?_; clear S a; intro a S
    refine l_nil ?_
    refine e_then ?_
    refine wp_seq ?_
    refine wp_seq ?_
    refine c_region ?_
    refine l_mv 1 S rfl ?_; clear S a; intro a S
    refine l_pure S (p_lss rfl rfl) rfl rfl rfl ?_; clear S a; intro a S
    refine l_nil ?_
    refine e_then ?_
    refine c_cond S rfl (fun bc10 => ?_) (fun bc10 => ?_)
    ·
     have c10 := bc10
     have c10 := of_decide_eq_true c10
     refine c_region ?_
     refine l_mv 3 S rfl ?_; clear S a; intro a S
     refine l_pure S (p_add (r := (((n + (((E r) - 48) * 2 ^ k)) - (10 * ((n + (((E r) - 48) * 2 ^ k)) / 10))) + 48)) rfl rfl (IntWalk.u64_in _ (by omega))) rfl rfl rfl ?_; clear S a; intro a S
     refine l_pure S (p_conv rfl (fun w => cv_int (Tryz.underlying87) (Tryz.underlying5) (r := (((n + (((E r) - 48) * 2 ^ k)) - (10 * ((n + (((E r) - 48) * 2 ^ k)) / 10))) + 48)) (IntWalk.u8_in _ (by omega)))) rfl rfl rfl ?_; clear S a; intro a S
     refine l_mv 1 S rfl ?_; clear S a; intro a S
     refine l_pure S (p_fieldAddr rfl (fun w => fa113_0 w _ _)) rfl rfl rfl ?_; clear S a; intro a S
     refine l_pure S (p_indexAddr rfl rfl (fun w => ia_array Tryz.underlying111 sz5 (by omega) (by omega))) rfl rfl rfl ?_; clear S a; intro a S
     refine l_store S H rfl rfl rfl (Upd.cast (dec_set (X := (y - 1)) (v := (((n + (((E r) - 48) * 2 ^ k)) - (10 * ((n + (((E r) - 48) * 2 ^ k)) / 10))) + 48)) (by omega) (by omega)) .here) (by rw [dec_size]; omega) (fun w u hc hz => st1 sz5 rfl hc hz) rfl rfl ?_; clear S a H; intro w a H S
     refine l_nil ?_
     refine e_then ?_
     refine c_region ?_
     refine l_mv 2 S rfl ?_; clear S a; intro a S
     refine l_nil ?_
     refine e_in 1 ?_
     refine e_then ?_
     refine c_region ?_
     refine l_mv 1 S rfl ?_; clear S a; intro a S
     refine l_pure S (p_sub (r := (r - 1)) rfl rfl (IntWalk.i64_in _ (by omega))) rfl rfl rfl ?_; clear S a; intro a S
     refine l_mv 1 S rfl ?_; clear S a; intro a S
     refine l_nil ?_
     refine e_then ?_
     exact ⟨(fu, (r - 1), (y - 1), ((n + (((E r) - 48) * 2 ^ k)) / 10), (c + 1), dl, (upd E ((y - 1)) (((n + (((E r) - 48) * 2 ^ k)) - (10 * ((n + (((E r) - 48) * 2 ^ k)) / 10))) + 48)), tz), ⟨S.only ⟨rfl, rfl, rfl, rfl, rfl, rfl, trivial⟩, H, by rw [← hR]; simp only [lsa, bc8, bc10, cond_true, cond_false], by omega, ⟨rfl, by omega, by omega, by omega, by omega, lsh_inv hc her hv, keep_lo hE (by omega), by rw [show r - 1 + 1 + dl = y - 1 by omega]; exact hF.upd (by omega) (by omega), fun a b c => lsh_z (by omega) (by omega) her hD0 (by omega) (by omega) (by omega)⟩⟩, Nat.lt_succ_self fu⟩
    ·
     have c10 := bc10
     have c10 := of_decide_eq_false c10
     refine wp_seq ?_
     refine c_region ?_
     refine l_mv 1 S rfl ?_; clear S a; intro a S
     refine l_pure S (p_neq rfl rfl) rfl rfl rfl ?_; clear S a; intro a S
     refine l_nil ?_
     refine e_then ?_
     refine c_cond S rfl (fun bc12 => ?_) (fun bc12 => ?_)
     ·
      have c12 := bc12
      have c12 := bne_iff_ne.1 c12
      refine c_region ?_
      refine l_mv 2 S rfl ?_; clear S a; intro a S
      refine l_pure S (p_fieldAddr rfl (fun w => fa113_4 w _ _)) rfl rfl rfl ?_; clear S a; intro a S
      refine l_store S H rfl rfl rfl (Upd.cast (set_tr (v := true)) .here) (by rw [dec_size]; omega) (fun w u hc hz => st1 sz4 rfl hc hz) rfl rfl ?_; clear S a H; intro w a H S
      refine l_nil ?_
      refine e_then ?_
      refine c_region ?_
      refine l_mv 2 S rfl ?_; clear S a; intro a S
      refine l_nil ?_
      refine e_in 1 ?_
      refine e_then ?_
      refine c_region ?_
      refine l_mv 1 S rfl ?_; clear S a; intro a S
      refine l_pure S (p_sub (r := (r - 1)) rfl rfl (IntWalk.i64_in _ (by omega))) rfl rfl rfl ?_; clear S a; intro a S
      refine l_mv 1 S rfl ?_; clear S a; intro a S
      refine l_nil ?_
      refine e_then ?_
      exact ⟨(fu, (r - 1), (y - 1), ((n + (((E r) - 48) * 2 ^ k)) / 10), (c + 1), dl, E, true), ⟨S.only ⟨rfl, rfl, rfl, rfl, rfl, rfl, trivial⟩, H, by rw [← hR]; simp only [lsa, bc8, bc10, bc12, cond_true, cond_false], by omega, ⟨rfl, by omega, by omega, by omega, by omega, lsh_inv hc her hv, fun i a b => hE i a (by omega), Dh.far (y := 0) (by omega), fun a b c => by omega⟩⟩, Nat.lt_succ_self fu⟩
     ·
      have c12 := bc12
      have c12 := bne_eq_false_iff_eq.1 c12
      refine wp_skip ?_
      refine e_then ?_
      refine c_region ?_
      refine l_mv 2 S rfl ?_; clear S a; intro a S
      refine l_nil ?_
      refine e_in 1 ?_
      refine e_then ?_
      refine c_region ?_
      refine l_mv 1 S rfl ?_; clear S a; intro a S
      refine l_pure S (p_sub (r := (r - 1)) rfl rfl (IntWalk.i64_in _ (by omega))) rfl rfl rfl ?_; clear S a; intro a S
      refine l_mv 1 S rfl ?_; clear S a; intro a S
      refine l_nil ?_
      refine e_then ?_
      exact ⟨(fu, (r - 1), (y - 1), ((n + (((E r) - 48) * 2 ^ k)) / 10), (c + 1), dl, E, tz), ⟨S.only ⟨rfl, rfl, rfl, rfl, rfl, rfl, trivial⟩, H, by rw [← hR]; simp only [lsa, bc8, bc10, bc12, cond_true, cond_false], by omega, ⟨rfl, by omega, by omega, by omega, by omega, lsh_inv hc her hv, fun i a b => hE i a (by omega), Dh.far (y := 0) (by omega), fun a b c => by omega⟩⟩, Nat.lt_succ_self fu⟩
   ·
    have c8 := bc8
    have c8 := of_decide_eq_false c8
    refine wp_exit ?_
    refine e_then_exit ?_
    refine e_then_exit ?_
    refine e_in_exit ?_
    refine e_then ?_
    have hcn : c = nd.toNat := by omega
    have hfit := hNT n (by rw [← hcn]; exact hv.1) (by rw [← hcn]; exact hv.2)
    exact ⟨y, n, dl, E, tz, S.only ⟨rfl, rfl, rfl, rfl, rfl, trivial⟩, H, by rw [← hR]; simp only [lsa, bc8, cond_true, cond_false], ⟨rfl, by omega, by omega, hfit, by rw [show r + 1 + dl = dl by omega] at hF; exact hF, fun h => hz h (by omega) (by rw [h] at hfit; exact hfit.zero hn.1)⟩⟩
 ·
  refine wp_seq ?_
  refine d_start (id := 1) [] 14 #[false, false, false, false, false, false, false, false, false, false, false, false, false, false] H rfl rfl rfl (fun w H => ?_)
  refine d_mv [0, 1, 3, 4, 9] #[true, true, false, true, true, false, false, false, false, true, false, false, false, false] S rfl (by kernel_rfl) (fun _ _ _ _ _ h => h) ?_; clear S a; intro a S
  refine d_pure (i := 2) #[true, true, true, true, true, false, false, false, false, true, false, false, false, false] S rfl (p_fieldAddr rfl (fun w => fa113_0 w _ _)) (wanted_none rfl) rfl rfl (by kernel_rfl) (fun _ _ _ h => h) ?_; clear S a; intro a S
  refine d_pure (i := 5) #[true, true, true, true, true, true, false, false, false, true, false, false, false, false] S rfl (p_fieldAddr rfl (fun w => fa113_1 w _ _)) (wanted_none rfl) rfl rfl (by kernel_rfl) (fun _ _ _ h => h) ?_; clear S a; intro a S
  refine d_read (i := 6) #[true, true, true, true, true, true, true, false, false, true, false, false, false, false] S H rfl (r_load rfl List.mem_cons_self (show _ = some (.int .i64 nd) from dec_nd) (fun w hc => ld1 ag3 hc)) (wanted_none rfl) rfl rfl (by kernel_rfl) (fun _ _ _ h => h) ?_; clear S a; intro a S
  refine d_pure (i := 7) #[true, true, true, true, true, true, true, true, false, true, false, false, false, false] S rfl (p_slice (v := .slice (some ⟨gd, 0, none⟩) nd.toNat 800) rfl (o_some rfl) (o_some rfl) (fun _ _ => o_none) (fun w => sl_arr Tryz.underlying111 sz5 (by omega) (by omega) (by omega))) (wanted_none rfl) rfl rfl (by kernel_rfl) (fun _ _ _ h => h) ?_; clear S a; intro a S
  obtain ⟨gt, ct, ot, ht1, ht2, ht3, ht4⟩ := hL.lc
  refine d_read (i := 8) #[true, true, true, true, true, true, true, true, true, true, false, false, false, false] S H rfl (r_loadG rfl ht1 ht2 ag155) (wanted_none rfl) rfl rfl (by kernel_rfl) (fun _ _ _ h => h) ?_; clear S a; intro a S
  refine d_pure (i := 10) #[true, true, true, true, true, true, true, true, true, true, true, false, false, false] S rfl (p_indexAddr rfl rfl (fun w => ia_slice Tryz.underlying155 sz154 (by omega) (by omega))) (wanted_none rfl) rfl rfl (by kernel_rfl) (fun _ _ _ h => h) ?_; clear S a; intro a S
  refine d_pure (i := 11) #[true, true, true, true, true, true, true, true, true, true, true, true, false, false] S rfl (p_fieldAddr rfl (fun w => fa154_1 w _ _)) (wanted_none rfl) rfl rfl (by kernel_rfl) (fun _ _ _ h => h) ?_; clear S a; intro a S
  refine d_read (i := 12) #[true, true, true, true, true, true, true, true, true, true, true, true, true, false] S H rfl (r_loadG rfl (show _ = some (Value.string (lcS k)) from by have h := (ht4 k (by omega)).2; rw [show ot + ((k : Nat) : Int).toNat * 2 + 1 = ot + k * 2 + 1 by omega]; exact h) ht3 ag9) (wanted_none rfl) rfl rfl (by kernel_rfl) (fun _ _ _ h => h) ?_; clear S a; intro a S
  have hcon := d1.pil_ wb _ B L0 gd D nd dp ng tr nd.toNat 800 (lcS k) (by omega) (by have := hlc.big; omega) H
  refine d_call (i := 13) #[true, true, true, true, true, true, true, true, true, true, true, true, true, true] S rfl rfl rfl Tryz.func91 rfl rfl hcon (wanted_none rfl) rfl rfl (by kernel_rfl) rfl ?_
  rintro e w ⟨rfl, hH, hpt, hpf⟩; refine ⟨_, rfl, hH, ?_⟩; clear hcon H; have H := hH; clear hH; clear S a; intro a S
  refine d_done (by kernel_rfl) ?_
  refine e_then ?_
  refine c_cond S rfl (fun bc14 => ?_) (fun bc14 => ?_)
  ·
   have c14 := bc14
   refine c_region ?_
   refine l_mv 1 S rfl ?_; clear S a; intro a S
   refine l_pure S (p_sub (r := (((lcN k : Nat) : Int) - 1)) rfl rfl (IntWalk.i64_in _ (by omega))) rfl rfl rfl ?_; clear S a; intro a S
   refine l_mv 1 S rfl ?_; clear S a; intro a S
   refine l_nil ?_
   refine e_then ?_
   exact ⟨(((lcN k : Nat) : Int) - 1), S.only ⟨rfl, rfl, rfl, trivial⟩, H, by rw [← hR]; simp only [lsh, bc14, cond_true, cond_false], ⟨by omega, lsh_t hk hN.1 hdig hD0 (hpt bc14)⟩⟩
  ·
   have c14 := bc14
   refine wp_skip ?_
   refine e_then ?_
   exact ⟨((lcN k : Nat) : Int), S.only ⟨rfl, rfl, rfl, trivial⟩, H, by rw [← hR]; simp only [lsh, bc14, cond_true, cond_false], ⟨by omega, lsh_f hk hN.1 hdig (hpf bc14)⟩⟩
end d4
end Go.Proofs.YtneoieigaakoaaaGreatDoor.pf
end
section
namespace Go.Proofs.YtneoieigaakoaaaGreatDoor.pf
open Go.Proofs.YtneoieigaakoaaaGreatDoor.fx
open Go.RowKit Go.Proofs.HHW Go.Proofs.YtneoieigaakoaaaGreatDoorW.PrintWords
namespace d5
def sfl (x : Int) (D : Int → Int) (nd dp : Int) (tr : Bool) : Nat → Int → (Int → Int) × Int × Int × Bool
 | 0, _ => default
 | fu + 1, kz => ((d4.lsh ((kz).toNat) D nd dp tr).1, (d4.lsh ((kz).toNat) D nd dp tr).2.1, (d4.lsh ((kz).toNat) D nd dp tr).2.2.1, (d4.lsh ((kz).toNat) D nd dp tr).2.2.2)
def sfr (x : Int) (D : Int → Int) (nd dp : Int) (tr : Bool) : Nat → Int → (Int → Int) → Int → Int → Bool → (Int → Int) × Int × Int × Bool
 | 0, _, _, _, _, _ => default
 | fu + 1, kz, E, mz, pz, tz => (bif (decide (kz < (-60))) then sfr x D nd dp tr fu (kz + 60) (d3.rsh 60 E mz pz tz).1 (d3.rsh 60 E mz pz tz).2.1 (d3.rsh 60 E mz pz tz).2.2.1 (d3.rsh 60 E mz pz tz).2.2.2 else ((d3.rsh (((-kz)).toNat) E mz pz tz).1, (d3.rsh (((-kz)).toNat) E mz pz tz).2.1, (d3.rsh (((-kz)).toNat) E mz pz tz).2.2.1, (d3.rsh (((-kz)).toNat) E mz pz tz).2.2.2))
def shf (x : Int) (D : Int → Int) (nd dp : Int) (tr : Bool) : (Int → Int) × Int × Int × Bool := (bif (decide (x > 0)) then sfl x D nd dp tr ((x.toNat) + 1) x else sfr x D nd dp tr (((-x).toNat) + 1) x D nd dp tr)
set_option maxHeartbeats 2000000 in
theorem shf_ (wb w0 : World) (B : Nat) (L0 : List (Nat × Obj)) (hL : PL 14 B wb) (gd : Nat) (D : Int → Int) (nd dp : Int) (ng tr : Bool) (x : Int) (hx : (1 ≤ x ∧ x ≤ 60) ∨ (-1000000000 ≤ x ∧ x ≤ -1)) (hM : 1 ≤ nd ∧ nd ≤ 800) (hG : Dg D nd) (hp : -10000000000000 ≤ dp ∧ dp ≤ 10000000000000) (H : HH B wb w0 ((gd, .cells (decC D nd dp ng tr) 113 (0, 0)) :: L0)) : Calls Tryz.prog 79 #[.pointer (some ⟨gd, 0, none⟩), .int .i64 x] w0 fun e w' => e = .returned (.tuple #[]) ∧ HH B wb w' ((gd, .cells (decC (shf x D nd dp tr).1 (shf x D nd dp tr).2.1 (shf x D nd dp tr).2.2.1 ng (shf x D nd dp tr).2.2.2) 113 (0, 0)) :: L0) ∧ (Dg (shf x D nd dp tr).1 (shf x D nd dp tr).2.1 ∧ 1 ≤ (shf x D nd dp tr).2.1 ∧ (shf x D nd dp tr).2.1 ≤ 800) ∧ (0 < x → dp ≤ (shf x D nd dp tr).2.2.1 ∧ (shf x D nd dp tr).2.2.1 ≤ dp + 19 ∧ 20 * dp + D 0 < 20 * (shf x D nd dp tr).2.2.1 + (shf x D nd dp tr).1 0) ∧ (x < 0 → dp + 1000 * x ≤ (shf x D nd dp tr).2.2.1 ∧ (shf x D nd dp tr).2.2.1 ≤ dp ∧ 20 * (shf x D nd dp tr).2.2.1 + (shf x D nd dp tr).1 0 < 20 * dp + D 0) := by
 generalize hR : shf x D nd dp tr = R
 refine c_enter (args := [.pointer (some ⟨gd, 0, none⟩), .int .i64 x]) (k := 35) Tryz.func79 rfl rfl rfl (fun a S => ?_)
 refine wp_block ?_
 refine wp_seq ?_
 refine c_region ?_
 refine l_mv 2 S rfl ?_; clear S a; intro a S
 refine l_pure S (p_fieldAddr rfl (fun w => fa113_1 w _ _)) rfl rfl rfl ?_; clear S a; intro a S
 refine l_read S H (r_load rfl List.mem_cons_self (show _ = some (.int .i64 nd) from dec_nd) (fun w hc => ld1 ag3 hc)) rfl rfl rfl ?_; clear S a; intro a S
 refine l_pure S (p_eql rfl rfl) rfl rfl rfl ?_; clear S a; intro a S
 refine l_mv 1 S rfl ?_; clear S a; intro a S
 refine l_nil ?_
 refine e_then ?_
 refine c_cond S rfl (fun c2 => by have c2 := eq_of_beq c2; exfalso; omega) (fun c2 => ?_)
 have c2 := ne_of_beq_false c2
 refine wp_seq ?_
 refine c_region ?_
 refine l_mv 1 S rfl ?_; clear S a; intro a S
 refine l_pure S (p_gtr rfl rfl) rfl rfl rfl ?_; clear S a; intro a S
 refine l_mv 1 S rfl ?_; clear S a; intro a S
 refine l_nil ?_
 refine e_then ?_
 refine c_cond S rfl (fun bc4 => ?_) (fun bc4 => ?_)
 ·
  have c4 := bc4
  have c4 := of_decide_eq_true c4
  refine wp_seq ?_
  refine wp_block ?_
  refine c_loop (σ := Nat × Int) (fun s_ a w => match s_ with | (k_, kz) => SL a 37 [] [(0, .pointer (some ⟨gd, 0, none⟩)), (1, .int .i64 kz)] ∧ HH B wb w ((gd, .cells (decC D nd dp ng tr) 113 (0, 0)) :: L0) ∧ (sfl x D nd dp tr k_ kz = R ∧ kz.toNat < k_ ∧ (1 ≤ kz ∧ kz ≤ 60))) (fun s_ => s_.1) ((x.toNat) + 1, x) ⟨S.only ⟨rfl, rfl, trivial⟩, H, by rw [← hR]; simp only [shf, bc4, cond_true, cond_false], by omega, by omega⟩ ?_
  clear S a H hR; rintro ⟨fu, kz⟩ a w ⟨S, H, hR, hk, hinv⟩
  obtain ⟨fu, rfl⟩ : ∃ j, fu = j + 1 := ⟨fu - 1, by omega⟩
  have hk := hinv
  refine wp_seq ?_
  refine wp_seq ?_
  refine c_region ?_
  refine l_mv 1 S rfl ?_; clear S a; intro a S
  refine l_pure S (p_gtr rfl rfl) rfl rfl rfl ?_; clear S a; intro a S
  refine l_nil ?_
  refine e_then ?_
  refine c_cond S rfl (fun c6 => by have c6 := of_decide_eq_true c6; exfalso; omega) (fun c6 => ?_)
  have c6 := of_decide_eq_false c6
  refine wp_exit ?_
  refine e_then_exit ?_
  refine e_then_exit ?_
  refine e_in_exit ?_
  refine e_then ?_
  refine c_region ?_
  refine l_mv 2 S rfl ?_; clear S a; intro a S
  refine l_pure S (p_conv rfl (fun w => cv_int (Tryz.underlying3) (Tryz.underlying87) (r := (((kz).toNat : Nat) : Int)) (by rw [IntWalk.u64_in _ (by omega)]; omega))) rfl rfl rfl ?_; clear S a; intro a S
  have hcon := d4.lsh_ wb _ B L0 hL gd D nd dp ng tr ((kz).toNat) (by omega) hM hG (by omega) H
  refine l_call S rfl rfl Tryz.func84 rfl rfl (hcon) rfl rfl rfl ?_
  rintro e w ⟨rfl, hH, ⟨hs1, hs2⟩, hs3⟩
  refine ⟨_, rfl, ?_⟩; clear S a; intro a S
  clear H hcon; have H := hH; clear hH
  refine l_nil ?_
  refine e_in 0 ?_
  have eR : R = ((d4.lsh ((kz).toNat) D nd dp tr).1, (d4.lsh ((kz).toNat) D nd dp tr).2.1, (d4.lsh ((kz).toNat) D nd dp tr).2.2.1, (d4.lsh ((kz).toNat) D nd dp tr).2.2.2) := by rw [← hR]; simp only [sfl, cond_true, cond_false]
  clear hR; subst eR
  exact r_end0 S rfl ⟨rfl, H, ⟨hs1, hs2⟩, (fun h => by dsimp only; omega), (fun h => by dsimp only; omega)⟩
 ·
  have c4 := bc4
  have c4 := of_decide_eq_false c4
  refine wp_seq ?_
  refine c_region ?_
  refine l_mv 1 S rfl ?_; clear S a; intro a S
  refine l_pure S (p_lss rfl rfl) rfl rfl rfl ?_; clear S a; intro a S
  refine l_mv 1 S rfl ?_; clear S a; intro a S
  refine l_nil ?_
  refine e_then ?_
  refine c_cond S rfl (fun c8 => ?_) (fun c8 => by have c8 := of_decide_eq_false c8; exfalso; omega)
  have c8 := of_decide_eq_true c8
  refine wp_seq ?_
  refine wp_block ?_
  refine c_loop (σ := Nat × Int × (Int → Int) × Int × Int × Bool) (fun s_ a w => match s_ with | (k_, kz, E, mz, pz, tz) => SL a 37 [] [(0, .pointer (some ⟨gd, 0, none⟩)), (1, .int .i64 kz)] ∧ HH B wb w ((gd, .cells (decC E mz pz ng tz) 113 (0, 0)) :: L0) ∧ (sfr x D nd dp tr k_ kz E mz pz tz = R ∧ (-kz).toNat < k_ ∧ ((x ≤ kz ∧ kz ≤ -1) ∧ Dg E mz ∧ (1 ≤ mz ∧ mz ≤ 800) ∧ (dp - 1000 * (kz - x) ≤ pz ∧ pz ≤ dp) ∧ 20 * pz + E 0 ≤ 20 * dp + D 0))) (fun s_ => s_.1) (((-x).toNat) + 1, x, D, nd, dp, tr) ⟨S.only ⟨rfl, rfl, trivial⟩, H, by rw [← hR]; simp only [shf, bc4, cond_true, cond_false], by omega, ⟨by omega, hG, hM, by omega, by omega⟩⟩ ?_
  clear S a H hR; rintro ⟨fu, kz, E, mz, pz, tz⟩ a w ⟨S, H, hR, hk, hinv⟩
  obtain ⟨fu, rfl⟩ : ∃ j, fu = j + 1 := ⟨fu - 1, by omega⟩
  obtain ⟨hk, hG, hM, hb, hv⟩ := hinv
  refine wp_seq ?_
  refine wp_seq ?_
  refine c_region ?_
  refine l_mv 1 S rfl ?_; clear S a; intro a S
  refine l_pure S (p_lss rfl rfl) rfl rfl rfl ?_; clear S a; intro a S
  refine l_nil ?_
  refine e_then ?_
  refine c_cond S rfl (fun bc10 => ?_) (fun bc10 => ?_)
  ·
   have c10 := bc10
   have c10 := of_decide_eq_true c10
   refine wp_skip ?_
   refine e_then ?_
   refine wp_block ?_
   refine wp_seq ?_
   refine c_region ?_
   refine l_mv 1 S rfl ?_; clear S a; intro a S
   have hcon := d3.rsh_ wb _ B L0 gd E mz pz ng tz 60 (by decide) hM hG (by omega) H
   refine l_call S rfl rfl Tryz.func85 rfl rfl (hcon) rfl rfl rfl ?_
   rintro e w ⟨rfl, hH, ⟨hs1, hs2⟩, hs3⟩
   refine ⟨_, rfl, ?_⟩; clear S a; intro a S
   clear H hcon; have H := hH; clear hH
   refine l_nil ?_
   refine e_then ?_
   refine c_region ?_
   refine l_mv 1 S rfl ?_; clear S a; intro a S
   refine l_pure S (p_add (r := (kz + 60)) rfl rfl (IntWalk.i64_in _ (by omega))) rfl rfl rfl ?_; clear S a; intro a S
   refine l_mv 1 S rfl ?_; clear S a; intro a S
   refine l_nil ?_
   refine e_in 4 ?_
   refine e_then ?_
   exact ⟨(fu, (kz + 60), (d3.rsh 60 E mz pz tz).1, (d3.rsh 60 E mz pz tz).2.1, (d3.rsh 60 E mz pz tz).2.2.1, (d3.rsh 60 E mz pz tz).2.2.2), ⟨S.only ⟨rfl, rfl, trivial⟩, H, by rw [← hR]; simp only [sfr, bc10, cond_true, cond_false], by omega, ⟨by omega, hs1, hs2, by omega, by omega⟩⟩, Nat.lt_succ_self fu⟩
  ·
   have c10 := bc10
   have c10 := of_decide_eq_false c10
   refine wp_exit ?_
   refine e_then_exit ?_
   refine e_then_exit ?_
   refine e_in_exit ?_
   refine e_then ?_
   refine c_region ?_
   refine l_mv 2 S rfl ?_; clear S a; intro a S
   refine l_pure S (p_un rfl (fun w => fz.neg64 (by omega) w)) rfl rfl rfl ?_; clear S a; intro a S
   refine l_pure S (p_conv rfl (fun w => cv_int (Tryz.underlying3) (Tryz.underlying87) (r := ((((-kz)).toNat : Nat) : Int)) (by rw [IntWalk.u64_in _ (by omega)]; omega))) rfl rfl rfl ?_; clear S a; intro a S
   have hcon := d3.rsh_ wb _ B L0 gd E mz pz ng tz (((-kz)).toNat) (by omega) hM hG (by omega) H
   refine l_call S rfl rfl Tryz.func85 rfl rfl (hcon) rfl rfl rfl ?_
   rintro e w ⟨rfl, hH, ⟨hs1, hs2⟩, hs3⟩
   refine ⟨_, rfl, ?_⟩; clear S a; intro a S
   clear H hcon; have H := hH; clear hH
   refine l_nil ?_
   refine e_in 0 ?_
   have eR : R = ((d3.rsh (((-kz)).toNat) E mz pz tz).1, (d3.rsh (((-kz)).toNat) E mz pz tz).2.1, (d3.rsh (((-kz)).toNat) E mz pz tz).2.2.1, (d3.rsh (((-kz)).toNat) E mz pz tz).2.2.2) := by rw [← hR]; simp only [sfr, bc10, cond_true, cond_false]
   clear hR; subst eR
   exact r_end0 S rfl ⟨rfl, H, ⟨hs1, hs2⟩, (fun h => by dsimp only; omega), (fun h => by dsimp only; omega)⟩
end d5
end Go.Proofs.YtneoieigaakoaaaGreatDoor.pf
end
