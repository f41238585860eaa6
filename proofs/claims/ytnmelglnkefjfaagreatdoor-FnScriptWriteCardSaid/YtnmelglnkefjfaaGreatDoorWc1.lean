/- Numbers, appended. -/
import Derived.Test.YtnmelglnkefjfaaGreatDoorWa1
namespace Go.Proofs.YtnmelglnkefjfaaGreatDoor.wr
open Go.RowKit Go.Proofs.HHW Go.Proofs.YtnmelglnkefjfaaGreatDoorW.PrintWords
set_option linter.unusedVariables false
set_option linter.unusedSimpArgs false
namespace nm
theorem sz5 : szB Tryz.prog 5 = some 1 := by kernel_rfl
theorem zv205 : zvB Tryz.prog 205 = some (.agg #[.int .u8 0, .int .u8 0, .int .u8 0, .int .u8 0, .int .u8 0, .int .u8 0, .int .u8 0, .int .u8 0, .int .u8 0, .int .u8 0, .int .u8 0, .int .u8 0, .int .u8 0, .int .u8 0, .int .u8 0, .int .u8 0, .int .u8 0, .int .u8 0, .int .u8 0, .int .u8 0, .int .u8 0, .int .u8 0, .int .u8 0, .int .u8 0]) := by kernel_rfl
theorem in5 : (Tryz.prog.info? 5).map (fun i => (i.zero, i.size, i.bytes)) = some (some (.int .u8 0), 1, 1) := by kernel_rfl


theorem appU_ (wb w0 : World) (B : Nat) (L0 : dc.Bk) (ht : Lib.TabBelow Tryz.prog B wb "internal/strconv.uint64pow10" .u64 Lib.pow10Tab) (A : Option Addr) (c u : Nat) (l : List Int) (ow : dc.Bk) (hown : OwnB 5 (.slice A l.length c) l ow) (H : HH B wb w0 (ow ++ L0)) (hu : u ≤ 1000000000000000000) (hl : l.length ≤ 100000000000000) : Calls Tryz.prog 104 #[.slice A l.length c, .int .u64 (u : Int), .int .i64 10] w0 fun e w' => ∃ (A' : Option Addr) (c' : Nat) (ow' : dc.Bk), e = .returned (.slice A' (l ++ wq.dec u).length c') ∧ OwnB 5 (.slice A' (l ++ wq.dec u).length c') (l ++ wq.dec u) ow' ∧ HH B wb w' (ow' ++ L0) := by
  refine c_enter (args := [.slice A l.length c, .int .u64 (u : Int), .int .i64 10]) (k := 33) Tryz.func104 rfl rfl rfl (fun a S => ?_)
  refine wp_seq ?_
  refine c_region ?_
  refine l_pure S (p_assign rfl) rfl rfl rfl ?_; clear S a; intro a S
  refine l_nil ?_
  refine e_then ?_
  refine wp_seq ?_
  refine wp_seq ?_
  refine c_region ?_
  refine l_pure S (p_move rfl) rfl rfl rfl ?_; clear S a; intro a S
  refine l_pure S (p_eql rfl rfl) rfl rfl rfl ?_; clear S a; intro a S
  refine l_nil ?_
  refine e_then ?_
  refine c_cond (b := true) S rfl (fun _ => ?_) (fun h => by cases h)
  refine wp_seq ?_
  refine wp_seq ?_
  refine c_region ?_
  refine l_pure S (p_move rfl) rfl rfl rfl ?_; clear S a; intro a S
  refine l_pure S (p_lss rfl rfl) rfl rfl rfl ?_; clear S a; intro a S
  refine l_nil ?_
  refine e_then ?_
  refine c_cond S rfl (fun bc4 => ?_) (fun bc4 => ?_)
  · skip
    have c4 := bc4
    have c4 := of_decide_eq_true c4
    refine wp_seq ?_
    refine c_region ?_
    refine l_pure S (p_move rfl) rfl rfl rfl ?_; clear S a; intro a S
    refine l_pure S (p_move rfl) rfl rfl rfl ?_; clear S a; intro a S
    refine l_pure S (p_conv rfl (fun w => cv_int Tryz.underlying53 Tryz.underlying3 (nat_toI (x := u) (by omega)))) rfl rfl rfl ?_; clear S a; intro a S
    have hcon := li.small_ u (by omega) w0
    refine l_call S rfl rfl Tryz.func101 rfl rfl hcon rfl rfl rfl ?_
    rintro e w' ⟨rfl, rfl⟩
    refine ⟨_, rfl, ?_⟩; clear S a; intro a S; clear hcon
    refine l_ownB [] (l := l) (r := ints (⟨(Lib.decDigits u).toArray⟩ : ByteArray)) S H rfl rfl rfl hown (wq.src_str Tryz.underlying9 _) Tryz.underlying39 in5 rfl (by rw [wq.ints_dec, wq.dec_len]; have := wq.nDigits_le (u := u) (k := 18) (by omega); omega) (by decide) rfl rfl rfl ?_; clear S a H; intro A1 c1 ow1 w a hown1 H S
    rw [wq.ints_dec] at hown1 S
    refine l_pure S (p_assign rfl) rfl rfl rfl ?_; clear S a; intro a S
    refine l_nil ?_
    refine e_then ?_
    refine wp_ret ?_
    refine e_then_ret ?_
    refine e_then_ret ?_
    exact r_ret1 S rfl rfl ⟨A1, c1, ow1, rfl, hown1, H⟩
  · skip
    have c4 := bc4
    have c4 := of_decide_eq_false c4
    refine wp_skip ?_
    refine e_then ?_
    refine wp_seq ?_
    refine c_region ?_
    refine l_alloc (cs := #[.int .u8 0, .int .u8 0, .int .u8 0, .int .u8 0, .int .u8 0, .int .u8 0, .int .u8 0, .int .u8 0, .int .u8 0, .int .u8 0, .int .u8 0, .int .u8 0, .int .u8 0, .int .u8 0, .int .u8 0, .int .u8 0, .int .u8 0, .int .u8 0, .int .u8 0, .int .u8 0, .int .u8 0, .int .u8 0, .int .u8 0, .int .u8 0]) S H rfl (fun w => al zv205) rfl rfl rfl ?_; clear S a H; intro ga w a H S
    refine l_nil ?_
    refine e_then ?_
    refine wp_seq ?_
    refine c_region ?_
    refine l_pure S (p_move rfl) rfl rfl rfl ?_; clear S a; intro a S
    have hcon := li.nd_ u (by omega) (by omega) w (ht w H.below)
    have hnd : Lib.nDigits u ≤ 19 := wq.nDigits_le (by omega)
    have hnp := Lib.nDigits_pos u
    refine l_call S rfl rfl Tryz.func92 rfl rfl hcon rfl rfl rfl ?_
    rintro e w' ⟨rfl, rfl⟩
    refine ⟨_, rfl, ?_⟩; clear S a; intro a S; clear hcon
    refine l_pure S (p_assign rfl) rfl rfl rfl ?_; clear S a; intro a S
    refine l_nil ?_
    refine e_then ?_
    refine wp_seq ?_
    refine c_region ?_
    refine l_pure S (p_move rfl) rfl rfl rfl ?_; clear S a; intro a S
    refine l_pure S (p_slice rfl (fun _ _ => o_none) (o_some rfl) (fun _ _ => o_none) (fun w => sl_arr_hi Tryz.underlying205 sz5 (by omega) (by omega) (by omega))) rfl rfl rfl ?_; clear S a; intro a S
    rw [Int.toNat_natCast] at S
    refine l_pure S (p_move rfl) rfl rfl rfl ?_; clear S a; intro a S
    have hcon := li.fmt_ (u := u) (off := 0) (c := 24) (cs := #[.int .u8 0, .int .u8 0, .int .u8 0, .int .u8 0, .int .u8 0, .int .u8 0, .int .u8 0, .int .u8 0, .int .u8 0, .int .u8 0, .int .u8 0, .int .u8 0, .int .u8 0, .int .u8 0, .int .u8 0, .int .u8 0, .int .u8 0, .int .u8 0, .int .u8 0, .int .u8 0, .int .u8 0, .int .u8 0, .int .u8 0, .int .u8 0]) (t := 205) H (fun j hj => by rw [Nat.zero_add]; exact wq.zeros24 (by omega)) (by show 0 + Lib.nDigits u ≤ 24; omega) (by omega) (by omega)
    refine l_call S rfl rfl Tryz.func102 rfl rfl (hcon) rfl rfl rfl ?_
    rintro e w ⟨rfl, hH⟩
    refine ⟨_, rfl, ?_⟩; clear S a; intro a S
    clear H hcon; have H := hH; clear hH
    refine l_nil ?_
    refine e_then ?_
    refine wp_seq ?_
    refine c_region ?_
    refine l_pure S (p_move rfl) rfl rfl rfl ?_; clear S a; intro a S
    refine l_pure S (p_move rfl) rfl rfl rfl ?_; clear S a; intro a S
    refine l_pure S (p_slice rfl (fun _ _ => o_none) (o_some rfl) (fun _ _ => o_none) (fun w => sl_arr_hi Tryz.underlying205 sz5 (by omega) (by omega) (by omega))) rfl rfl rfl ?_; clear S a; intro a S
    rw [Int.toNat_natCast] at S
    rw [← wq.dec_len] at S
    refine l_ownB [_] (l := l) (r := wq.dec u) S H rfl rfl rfl hown (src_rb (rp.row_rb H List.mem_cons_self (by have := bf.row0_spl (cs := #[.int .u8 0, .int .u8 0, .int .u8 0, .int .u8 0, .int .u8 0, .int .u8 0, .int .u8 0, .int .u8 0, .int .u8 0, .int .u8 0, .int .u8 0, .int .u8 0, .int .u8 0, .int .u8 0, .int .u8 0, .int .u8 0, .int .u8 0, .int .u8 0, .int .u8 0, .int .u8 0, .int .u8 0, .int .u8 0, .int .u8 0, .int .u8 0]) (vis := wq.dec u) (by rw [wq.dec_len]; show _ ≤ 24; omega); exact this)) Tryz.underlying39) Tryz.underlying39 in5 rfl (by rw [wq.dec_len]; omega) (by decide) rfl rfl rfl ?_; clear S a H; intro A1 c1 ow1 w a hown1 H S
    replace H := H.tail
    refine l_pure S (p_assign rfl) rfl rfl rfl ?_; clear S a; intro a S
    refine l_nil ?_
    refine e_then ?_
    refine wp_ret ?_
    refine e_then_ret ?_
    exact r_ret1 S rfl rfl ⟨A1, c1, ow1, rfl, hown1, H⟩
theorem appI0_ (wb w0 : World) (B : Nat) (L0 : dc.Bk) (ht : Lib.TabBelow Tryz.prog B wb "internal/strconv.uint64pow10" .u64 Lib.pow10Tab) (A : Option Addr) (c u : Nat) (l : List Int) (ow : dc.Bk) (hown : OwnB 5 (.slice A l.length c) l ow) (H : HH B wb w0 (ow ++ L0)) (hu : u ≤ 1000000000000000000) (hl : l.length ≤ 100000000000000) : Calls Tryz.prog 100 #[.slice A l.length c, .int .i64 (u : Int), .int .i64 10] w0 fun e w' => ∃ (A' : Option Addr) (c' : Nat) (ow' : dc.Bk), e = .returned (.slice A' (l ++ wq.dec u).length c') ∧ OwnB 5 (.slice A' (l ++ wq.dec u).length c') (l ++ wq.dec u) ow' ∧ HH B wb w' (ow' ++ L0) := by
  refine c_enter (args := [.slice A l.length c, .int .i64 (u : Int), .int .i64 10]) (k := 18) Tryz.func100 rfl rfl rfl (fun a S => ?_)
  refine wp_seq ?_
  refine c_region ?_
  refine l_pure S (p_assign rfl) rfl rfl rfl ?_; clear S a; intro a S
  refine l_nil ?_
  refine e_then ?_
  refine wp_seq ?_
  refine c_region ?_
  refine l_pure S (p_move rfl) rfl rfl rfl ?_; clear S a; intro a S
  refine l_pure S (p_conv rfl (fun w => cv_int (Tryz.underlying2) (Tryz.underlying53) (nat_toU (x := u) (by omega)))) rfl rfl rfl ?_; clear S a; intro a S
  refine l_pure S (p_assign rfl) rfl rfl rfl ?_; clear S a; intro a S
  refine l_nil ?_
  refine e_then ?_
  refine wp_seq ?_
  refine wp_seq ?_
  refine c_region ?_
  refine l_pure S (p_move rfl) rfl rfl rfl ?_; clear S a; intro a S
  refine l_pure S (p_lss rfl rfl) rfl rfl rfl ?_; clear S a; intro a S
  refine l_nil ?_
  refine e_then ?_
  refine c_cond S rfl (fun c2 => by have c2 := of_decide_eq_true c2; exfalso; omega) (fun c2 => ?_)
  have c2 := of_decide_eq_false c2
  refine wp_skip ?_
  refine e_then ?_
  refine wp_seq ?_
  refine c_region ?_
  refine l_pure S (p_move rfl) rfl rfl rfl ?_; clear S a; intro a S
  refine l_pure S (p_move rfl) rfl rfl rfl ?_; clear S a; intro a S
  refine l_pure S (p_move rfl) rfl rfl rfl ?_; clear S a; intro a S
  refine l_call S rfl rfl Tryz.func104 rfl rfl (appU_ wb _ B L0 ht A c u l ow hown H hu hl) rfl rfl rfl ?_
  rintro e w ⟨A1, c1, ow1, rfl, hown1, hH⟩
  refine ⟨_, rfl, ?_⟩; clear S a; intro a S
  clear H; have H := hH; clear hH
  refine l_pure S (p_assign rfl) rfl rfl rfl ?_; clear S a; intro a S
  refine l_nil ?_
  refine e_then ?_
  refine wp_ret ?_
  exact r_ret1 S rfl rfl ⟨A1, c1, ow1, rfl, hown1, H⟩
theorem appI_ (wb w0 : World) (B : Nat) (L0 : dc.Bk) (ht : Lib.TabBelow Tryz.prog B wb "internal/strconv.uint64pow10" .u64 Lib.pow10Tab) (A : Option Addr) (c u : Nat) (l : List Int) (ow : dc.Bk) (hown : OwnB 5 (.slice A l.length c) l ow) (H : HH B wb w0 (ow ++ L0)) (hu : u ≤ 1000000000000000000) (hl : l.length ≤ 100000000000000) : Calls Tryz.prog 81 #[.slice A l.length c, .int .i64 (u : Int), .int .i64 10] w0 fun e w' => ∃ (A' : Option Addr) (c' : Nat) (ow' : dc.Bk), e = .returned (.slice A' (l ++ wq.dec u).length c') ∧ OwnB 5 (.slice A' (l ++ wq.dec u).length c') (l ++ wq.dec u) ow' ∧ HH B wb w' (ow' ++ L0) := by
  refine c_enter (args := [.slice A l.length c, .int .i64 (u : Int), .int .i64 10]) (k := 8) Tryz.func81 rfl rfl rfl (fun a S => ?_)
  refine wp_seq ?_
  refine c_region ?_
  refine l_pure S (p_assign rfl) rfl rfl rfl ?_; clear S a; intro a S
  refine l_nil ?_
  refine e_then ?_
  refine wp_seq ?_
  refine c_region ?_
  refine l_pure S (p_move rfl) rfl rfl rfl ?_; clear S a; intro a S
  refine l_pure S (p_move rfl) rfl rfl rfl ?_; clear S a; intro a S
  refine l_pure S (p_move rfl) rfl rfl rfl ?_; clear S a; intro a S
  refine l_call S rfl rfl Tryz.func100 rfl rfl (appI0_ wb _ B L0 ht A c u l ow hown H hu hl) rfl rfl rfl ?_
  rintro e w ⟨A1, c1, ow1, rfl, hown1, hH⟩
  refine ⟨_, rfl, ?_⟩; clear S a; intro a S
  clear H; have H := hH; clear hH
  refine l_pure S (p_assign rfl) rfl rfl rfl ?_; clear S a; intro a S
  refine l_nil ?_
  refine e_then ?_
  refine wp_ret ?_
  exact r_ret1 S rfl rfl ⟨A1, c1, ow1, rfl, hown1, H⟩
theorem fmtI_ (wb w0 : World) (B : Nat) (L0 : dc.Bk) (u : Nat) (hu : u < 100) (H : HH B wb w0 L0) : Calls Tryz.prog 83 #[.int .i64 (u : Int), .int .i64 10] w0 fun e w' => e = .returned (.string ⟨(Lib.decDigits u).toArray⟩) ∧ HH B wb w' L0 := by
  refine c_enter (args := [.int .i64 (u : Int), .int .i64 10]) (k := 52) Tryz.func83 rfl rfl rfl (fun a S => ?_)
  refine wp_seq ?_
  refine c_region ?_
  refine l_pure S (p_assign rfl) rfl rfl rfl ?_; clear S a; intro a S
  refine l_nil ?_
  refine e_then ?_
  refine wp_seq ?_
  refine wp_seq ?_
  refine c_region ?_
  refine l_pure S (p_move rfl) rfl rfl rfl ?_; clear S a; intro a S
  refine l_pure S (p_eql rfl rfl) rfl rfl rfl ?_; clear S a; intro a S
  refine l_nil ?_
  refine e_then ?_
  refine c_cond (b := true) S rfl (fun _ => ?_) (fun h => by cases h)
  refine wp_seq ?_
  refine wp_seq ?_
  refine c_region ?_
  refine l_pure S (p_move rfl) rfl rfl rfl ?_; clear S a; intro a S
  refine l_pure S (p_leq rfl rfl) rfl rfl rfl ?_; clear S a; intro a S
  refine l_pure S (p_move rfl) rfl rfl rfl ?_; clear S a; intro a S
  refine l_on S rfl rfl rfl rfl (decide_eq_true (by omega)) ?_
  refine l_pure S (p_move rfl) rfl rfl rfl ?_; clear S a; intro a S
  refine l_on S rfl rfl rfl rfl (decide_eq_true (by omega)) ?_
  refine l_pure S (p_lss rfl rfl) rfl rfl rfl ?_; clear S a; intro a S
  refine l_pure S (p_pick_t rfl (decide_eq_true (by omega)) rfl) rfl rfl rfl ?_; clear S a; intro a S
  refine l_nil ?_
  refine e_then ?_
  refine c_cond S rfl (fun _ => ?_) (fun h => by rw [(decide_eq_true (by omega))] at h; cases h)
  refine wp_seq ?_
  refine c_region ?_
  refine l_pure S (p_move rfl) rfl rfl rfl ?_; clear S a; intro a S
  have hcon := li.small_ u hu w0
  refine l_call S rfl rfl Tryz.func101 rfl rfl hcon rfl rfl rfl ?_
  rintro e w' ⟨rfl, rfl⟩
  refine ⟨_, rfl, ?_⟩; clear S a; intro a S; clear hcon
  refine l_pure S (p_assign rfl) rfl rfl rfl ?_; clear S a; intro a S
  refine l_nil ?_
  refine e_then ?_
  refine wp_ret ?_
  refine e_then_ret ?_
  refine e_then_ret ?_
  exact r_ret1 S rfl rfl ⟨rfl, H⟩
theorem itoa0_ (wb w0 : World) (B : Nat) (L0 : dc.Bk) (u : Nat) (hu : u < 100) (H : HH B wb w0 L0) : Calls Tryz.prog 71 #[.int .i64 (u : Int)] w0 fun e w' => e = .returned (.string ⟨(Lib.decDigits u).toArray⟩) ∧ HH B wb w' L0 := by
  refine c_enter (args := [.int .i64 (u : Int)]) (k := 4) Tryz.func71 rfl rfl rfl (fun a S => ?_)
  refine wp_seq ?_
  refine c_region ?_
  refine l_pure S (p_assign rfl) rfl rfl rfl ?_; clear S a; intro a S
  refine l_nil ?_
  refine e_then ?_
  refine wp_seq ?_
  refine c_region ?_
  refine l_pure S (p_move rfl) rfl rfl rfl ?_; clear S a; intro a S
  refine l_call S rfl rfl Tryz.func83 rfl rfl (fmtI_ wb _ B L0 u hu H) rfl rfl rfl ?_
  rintro e w ⟨rfl, hH⟩
  refine ⟨_, rfl, ?_⟩; clear S a; intro a S
  clear H; have H := hH; clear hH
  refine l_pure S (p_assign rfl) rfl rfl rfl ?_; clear S a; intro a S
  refine l_nil ?_
  refine e_then ?_
  refine wp_ret ?_
  exact r_ret1 S rfl rfl ⟨rfl, H⟩
theorem itoa_ (wb w0 : World) (B : Nat) (L0 : dc.Bk) (u : Nat) (hu : u < 100) (H : HH B wb w0 L0) : Calls Tryz.prog 56 #[.int .i64 (u : Int)] w0 fun e w' => e = .returned (.string ⟨(Lib.decDigits u).toArray⟩) ∧ HH B wb w' L0 := by
  refine c_enter (args := [.int .i64 (u : Int)]) (k := 4) Tryz.func56 rfl rfl rfl (fun a S => ?_)
  refine wp_seq ?_
  refine c_region ?_
  refine l_pure S (p_assign rfl) rfl rfl rfl ?_; clear S a; intro a S
  refine l_nil ?_
  refine e_then ?_
  refine wp_seq ?_
  refine c_region ?_
  refine l_pure S (p_move rfl) rfl rfl rfl ?_; clear S a; intro a S
  refine l_call S rfl rfl Tryz.func71 rfl rfl (itoa0_ wb _ B L0 u hu H) rfl rfl rfl ?_
  rintro e w ⟨rfl, hH⟩
  refine ⟨_, rfl, ?_⟩; clear S a; intro a S
  clear H; have H := hH; clear hH
  refine l_pure S (p_assign rfl) rfl rfl rfl ?_; clear S a; intro a S
  refine l_nil ?_
  refine e_then ?_
  refine wp_ret ?_
  exact r_ret1 S rfl rfl ⟨rfl, H⟩
end nm
end Go.Proofs.YtnmelglnkefjfaaGreatDoor.wr
