/- Part of the proof that FnDecodeCRLF answers true at every text, in every world that its card's statement admits; no condition beyond those. -/
import Derived.Test.YtbahngfpadjbhaaGreatDoorR04
import Derived.Test.YtbahngfpadjbhaaGreatDoorR05
set_option linter.unusedVariables false
set_option linter.unusedSimpArgs false
section
namespace Go.Proofs.YtbahngfpadjbhaaGreatDoor.dec
open Go.Proofs.YtbahngfpadjbhaaGreatDoor.fx
open Go.RowKit Go.Proofs.HHW Go.Proofs.YtbahngfpadjbhaaGreatDoorW.PrintWords
namespace gv
theorem ag131 : aggB Tryz.prog 131 = some true := by kernel_rfl
theorem fa131_0 (w : World) (g o : Nat) : (Instr.fieldAt 131 (.pointer (some ⟨g, o, none⟩)) 0).run Tryz.prog w = .ok (.pointer (some ⟨g, o + 0, none⟩)) w := by kernel_rfl
theorem fa131_1 (w : World) (g o : Nat) : (Instr.fieldAt 131 (.pointer (some ⟨g, o, none⟩)) 1).run Tryz.prog w = .ok (.pointer (some ⟨g, o + 1, none⟩)) w := by kernel_rfl
theorem sz131 : szB Tryz.prog 131 = some 2 := by kernel_rfl
theorem zv131 : zvB Tryz.prog 131 = some (.agg #[.int .u8 0, .int .u8 0]) := by kernel_rfl
theorem word_ (w0 : World) (gq oq c : Nat) (l : List Int) (hR : RB w0 gq oq l) (h8 : 8 ≤ l.length) (hby : ∀ x ∈ l, 0 ≤ x ∧ x < 256) : Calls Tryz.prog 92 #[.slice (some ⟨gq, oq, none⟩) l.length c] w0 fun e w' => ∃ x : BitVec 64, e = .returned (.int .u64 (x.toNat : Int)) ∧ (∀ k, k < 8 → x.getLsbD (8 * k + 7) = decide (128 ≤ l.getD k 0)) ∧ Below w0.heap.size w0 w' := by
 have H := HH.start w0
 refine c_enter (args := [.slice (some ⟨gq, oq, none⟩) l.length c]) (k := 70) Tryz.func92 rfl rfl rfl ?_
 refine pS (pG (pM 1 rfl (pL (pT (pS (zf (pK (pT (pS ?_)))))))));intro a S
 refine d_start (id := 2) [] 47 (bA 47 0) H rfl rfl rfl (fun w H => ?_)
 revert a;refine qM [0,4,10,16,22,28,34,40] rfl (qP 1 rfl (p_indexAddr rfl rfl (fun w => ia_slice Tryz.underlying23 sz5 (by omega) (by omega))) rfl (qR 2 H rfl (r_byte (l := l) (i := 0) (v := ((BitVec.ofInt 8 (l.getD (0) 0)).toNat : Int)) rfl (by omega) ag5 hR rfl (bv8_get hby (show 0 < l.length by omega))) rfl (qP 3 rfl (p_conv rfl (fun w => cv_int (Tryz.underlying5) (Tryz.underlying139) (w8to64 (BitVec.ofInt 8 (l.getD (0) 0))))) rfl (qP 5 rfl (p_indexAddr rfl rfl (fun w => ia_slice Tryz.underlying23 sz5 (by omega) (by omega))) rfl (qR 6 H rfl (r_byte (l := l) (i := 1) (v := ((BitVec.ofInt 8 (l.getD (1) 0)).toNat : Int)) rfl (by omega) ag5 hR rfl (bv8_get hby (show 1 < l.length by omega))) rfl (qP 7 rfl (p_conv rfl (fun w => cv_int (Tryz.underlying5) (Tryz.underlying139) (w8to64 (BitVec.ofInt 8 (l.getD (1) 0))))) rfl (qP 8 rfl (p_shl rfl rfl (by decide) (shl64 ((BitVec.ofInt 8 (l.getD (1) 0)).setWidth 64) (n := 8) rfl (by decide))) rfl (qP 9 rfl (p_or rfl rfl (or64 ((BitVec.ofInt 8 (l.getD (0) 0)).setWidth 64) (((BitVec.ofInt 8 (l.getD (1) 0)).setWidth 64) <<< 8))) rfl (qP 11 rfl (p_indexAddr rfl rfl (fun w => ia_slice Tryz.underlying23 sz5 (by omega) (by omega))) rfl (qR 12 H rfl (r_byte (l := l) (i := 2) (v := ((BitVec.ofInt 8 (l.getD (2) 0)).toNat : Int)) rfl (by omega) ag5 hR rfl (bv8_get hby (show 2 < l.length by omega))) rfl (qP 13 rfl (p_conv rfl (fun w => cv_int (Tryz.underlying5) (Tryz.underlying139) (w8to64 (BitVec.ofInt 8 (l.getD (2) 0))))) rfl (qP 14 rfl (p_shl rfl rfl (by decide) (shl64 ((BitVec.ofInt 8 (l.getD (2) 0)).setWidth 64) (n := 16) rfl (by decide))) rfl (qP 15 rfl (p_or rfl rfl (or64 (((BitVec.ofInt 8 (l.getD (0) 0)).setWidth 64) ||| (((BitVec.ofInt 8 (l.getD (1) 0)).setWidth 64) <<< 8)) (((BitVec.ofInt 8 (l.getD (2) 0)).setWidth 64) <<< 16))) rfl (qP 17 rfl (p_indexAddr rfl rfl (fun w => ia_slice Tryz.underlying23 sz5 (by omega) (by omega))) rfl (qR 18 H rfl (r_byte (l := l) (i := 3) (v := ((BitVec.ofInt 8 (l.getD (3) 0)).toNat : Int)) rfl (by omega) ag5 hR rfl (bv8_get hby (show 3 < l.length by omega))) rfl (qP 19 rfl (p_conv rfl (fun w => cv_int (Tryz.underlying5) (Tryz.underlying139) (w8to64 (BitVec.ofInt 8 (l.getD (3) 0))))) rfl (qP 20 rfl (p_shl rfl rfl (by decide) (shl64 ((BitVec.ofInt 8 (l.getD (3) 0)).setWidth 64) (n := 24) rfl (by decide))) rfl (qP 21 rfl (p_or rfl rfl (or64 ((((BitVec.ofInt 8 (l.getD (0) 0)).setWidth 64) ||| (((BitVec.ofInt 8 (l.getD (1) 0)).setWidth 64) <<< 8)) ||| (((BitVec.ofInt 8 (l.getD (2) 0)).setWidth 64) <<< 16)) (((BitVec.ofInt 8 (l.getD (3) 0)).setWidth 64) <<< 24))) rfl (qP 23 rfl (p_indexAddr rfl rfl (fun w => ia_slice Tryz.underlying23 sz5 (by omega) (by omega))) rfl (qR 24 H rfl (r_byte (l := l) (i := 4) (v := ((BitVec.ofInt 8 (l.getD (4) 0)).toNat : Int)) rfl (by omega) ag5 hR rfl (bv8_get hby (show 4 < l.length by omega))) rfl (qP 25 rfl (p_conv rfl (fun w => cv_int (Tryz.underlying5) (Tryz.underlying139) (w8to64 (BitVec.ofInt 8 (l.getD (4) 0))))) rfl (qP 26 rfl (p_shl rfl rfl (by decide) (shl64 ((BitVec.ofInt 8 (l.getD (4) 0)).setWidth 64) (n := 32) rfl (by decide))) rfl (qP 27 rfl (p_or rfl rfl (or64 (((((BitVec.ofInt 8 (l.getD (0) 0)).setWidth 64) ||| (((BitVec.ofInt 8 (l.getD (1) 0)).setWidth 64) <<< 8)) ||| (((BitVec.ofInt 8 (l.getD (2) 0)).setWidth 64) <<< 16)) ||| (((BitVec.ofInt 8 (l.getD (3) 0)).setWidth 64) <<< 24)) (((BitVec.ofInt 8 (l.getD (4) 0)).setWidth 64) <<< 32))) rfl (qP 29 rfl (p_indexAddr rfl rfl (fun w => ia_slice Tryz.underlying23 sz5 (by omega) (by omega))) rfl (qR 30 H rfl (r_byte (l := l) (i := 5) (v := ((BitVec.ofInt 8 (l.getD (5) 0)).toNat : Int)) rfl (by omega) ag5 hR rfl (bv8_get hby (show 5 < l.length by omega))) rfl (qP 31 rfl (p_conv rfl (fun w => cv_int (Tryz.underlying5) (Tryz.underlying139) (w8to64 (BitVec.ofInt 8 (l.getD (5) 0))))) rfl (qP 32 rfl (p_shl rfl rfl (by decide) (shl64 ((BitVec.ofInt 8 (l.getD (5) 0)).setWidth 64) (n := 40) rfl (by decide))) rfl (qP 33 rfl (p_or rfl rfl (or64 ((((((BitVec.ofInt 8 (l.getD (0) 0)).setWidth 64) ||| (((BitVec.ofInt 8 (l.getD (1) 0)).setWidth 64) <<< 8)) ||| (((BitVec.ofInt 8 (l.getD (2) 0)).setWidth 64) <<< 16)) ||| (((BitVec.ofInt 8 (l.getD (3) 0)).setWidth 64) <<< 24)) ||| (((BitVec.ofInt 8 (l.getD (4) 0)).setWidth 64) <<< 32)) (((BitVec.ofInt 8 (l.getD (5) 0)).setWidth 64) <<< 40))) rfl (qP 35 rfl (p_indexAddr rfl rfl (fun w => ia_slice Tryz.underlying23 sz5 (by omega) (by omega))) rfl (qR 36 H rfl (r_byte (l := l) (i := 6) (v := ((BitVec.ofInt 8 (l.getD (6) 0)).toNat : Int)) rfl (by omega) ag5 hR rfl (bv8_get hby (show 6 < l.length by omega))) rfl (qP 37 rfl (p_conv rfl (fun w => cv_int (Tryz.underlying5) (Tryz.underlying139) (w8to64 (BitVec.ofInt 8 (l.getD (6) 0))))) rfl (qP 38 rfl (p_shl rfl rfl (by decide) (shl64 ((BitVec.ofInt 8 (l.getD (6) 0)).setWidth 64) (n := 48) rfl (by decide))) rfl (qP 39 rfl (p_or rfl rfl (or64 (((((((BitVec.ofInt 8 (l.getD (0) 0)).setWidth 64) ||| (((BitVec.ofInt 8 (l.getD (1) 0)).setWidth 64) <<< 8)) ||| (((BitVec.ofInt 8 (l.getD (2) 0)).setWidth 64) <<< 16)) ||| (((BitVec.ofInt 8 (l.getD (3) 0)).setWidth 64) <<< 24)) ||| (((BitVec.ofInt 8 (l.getD (4) 0)).setWidth 64) <<< 32)) ||| (((BitVec.ofInt 8 (l.getD (5) 0)).setWidth 64) <<< 40)) (((BitVec.ofInt 8 (l.getD (6) 0)).setWidth 64) <<< 48))) rfl (qP 41 rfl (p_indexAddr rfl rfl (fun w => ia_slice Tryz.underlying23 sz5 (by omega) (by omega))) rfl (qR 42 H rfl (r_byte (l := l) (i := 7) (v := ((BitVec.ofInt 8 (l.getD (7) 0)).toNat : Int)) rfl (by omega) ag5 hR rfl (bv8_get hby (show 7 < l.length by omega))) rfl (qP 43 rfl (p_conv rfl (fun w => cv_int (Tryz.underlying5) (Tryz.underlying139) (w8to64 (BitVec.ofInt 8 (l.getD (7) 0))))) rfl (qP 44 rfl (p_shl rfl rfl (by decide) (shl64 ((BitVec.ofInt 8 (l.getD (7) 0)).setWidth 64) (n := 56) rfl (by decide))) rfl (qP 45 rfl (p_or rfl rfl (or64 ((((((((BitVec.ofInt 8 (l.getD (0) 0)).setWidth 64) ||| (((BitVec.ofInt 8 (l.getD (1) 0)).setWidth 64) <<< 8)) ||| (((BitVec.ofInt 8 (l.getD (2) 0)).setWidth 64) <<< 16)) ||| (((BitVec.ofInt 8 (l.getD (3) 0)).setWidth 64) <<< 24)) ||| (((BitVec.ofInt 8 (l.getD (4) 0)).setWidth 64) <<< 32)) ||| (((BitVec.ofInt 8 (l.getD (5) 0)).setWidth 64) <<< 40)) ||| (((BitVec.ofInt 8 (l.getD (6) 0)).setWidth 64) <<< 48)) (((BitVec.ofInt 8 (l.getD (7) 0)).setWidth 64) <<< 56))) rfl (qM [46] rfl (qD (pT (pZ ?_))))))))))))))))))))))))))))))))))))))))));intro a S
 exact r_ret1 S rfl rfl ⟨_, rfl, fun k hk => (word_bits _ _ _ _ _ _ _ _ k hk).trans (word_tops hby h8 k hk), H.below⟩
set_option maxHeartbeats 4000000 in
set_option maxRecDepth 20000 in
theorem valid_ (w0 : World) (A : Option Addr) (c : Nat) (s : ByteArray) (hsb : SB w0 A c (ints s)) (hs : s.size ≤ 1000000000) (hT : Lib.Utf8Tabs 2 3 w0) : Calls Tryz.prog 79 #[.slice A (ints s).length c] w0 fun e w' => e = .returned (.bool (up.V s 0)) ∧ Below w0.heap.size w0 w' := by
 have H := HH.start w0
 have hil := ints_len s
 refine c_enter (args := [.slice A (ints s).length c]) (k := 187) Tryz.func79 rfl rfl rfl ?_
 refine pS (pG (pM 1 rfl (pL (pT (pS (pG (pM 2 rfl (pP (p_len Tryz.underlying23 rfl) rfl (pM 1 rfl (pP (p_len Tryz.underlying23 rfl) rfl (pP (p_slice rfl (fun _ _ => o_none) (o_some rfl) (o_some rfl) (fun w => sl_max Tryz.underlying23 sz5 hsb.1)) rfl (pM 1 rfl (pL (pT (pS (pB ?_))))))))))))))));intro a S
 have hsb0 := hsb.max
 refine c_loop (σ := Nat × Option Addr × Nat) (fun s_ a w => match s_ with | ⟨i, A, c⟩ => SL a 188 [] [(0, .slice A ((ints s).drop i).length c)] ∧ HH (w0.heap.size) w0 w [] ∧ (i ≤ s.size ∧ up.V s 0 = up.V s i ∧ SB w0 A c ((ints s).drop i))) (fun s_ => match s_ with | ⟨i, A, c⟩ => s.size - i) ⟨0, A, (ints s).length⟩ ⟨S.only ⟨rfl, trivial⟩, H, ⟨Nat.zero_le _, rfl, hsb0⟩⟩ ?_
 clear S a H; rintro ⟨i, A, c⟩ a w ⟨S, H, hinv⟩
 obtain ⟨hi, hV, hq⟩ := hinv
 have hln : ((ints s).drop i).length = s.size - i := by rw [List.length_drop, ints_len]
 have hr0 := HHW.bt_range s (i : Int)
 have hr1 := HHW.bt_range s ((i + 1 : Nat) : Int)
 have hr2 := HHW.bt_range s ((i + 2 : Nat) : Int)
 have hr3 := HHW.bt_range s ((i + 3 : Nat) : Int)
 revert a;refine pS (pS (pG (pM 1 rfl (pP (p_len Tryz.underlying23 rfl) rfl (pP (p_gtr rfl rfl) rfl (pL (pT (zc rfl (fun bc3 => ?_) (fun bc3 => ?_)))))))))
 ·
  intro a S
  have c3 := of_decide_eq_true bc3
  obtain ⟨go4, o4, rfl, hRo4⟩ := hq.get (i := 0) (by omega)
  revert a;refine pK (pT (pB (pS (pG (pM 1 rfl (pP (p_indexAddr rfl rfl (fun w => ia_slice Tryz.underlying23 sz5 (by omega) (by omega))) rfl (pR H (r_byte (l := ((ints s).drop i)) (i := 0) (v := HHW.bt s (i : Int)) rfl (by omega) ag5 hRo4 rfl (int_at s (k := 0) rfl (by omega))) rfl (pM 1 rfl (pL (pT (pS (pS (pG (pM 1 rfl (pP (p_lss rfl rfl) rfl (pL (pT (zc rfl (fun bc6 => ?_) (fun bc6 => ?_)))))))))))))))))))
  ·
   intro a S
   have c6 := of_decide_eq_true bc6
   have hV1 : up.V s 0 = up.V s (i + 1) := hV.trans (up.V_ascii (by omega) (by omega))
   revert a;refine pS (pG (pM 1 rfl ?_));intro a S
   have hsb7 := hq.drop (m := 1) (by omega)
   revert a;refine pP (p_slice rfl (o_some rfl) (fun _ _ => o_none) (fun _ _ => o_none) (fun w => sl_sb_lo (m := 1) Tryz.underlying23 sz5 rfl (by omega))) rfl ?_;intro a S
   rw [List.drop_drop] at S hsb7
   revert S; revert hsb7
   generalize cutAt _ _ 1 1 = Ab7
   generalize _ - 1 = cb7
   intro hsb7 S
   have hln8 : ((ints s).drop (i + 1)).length = s.size - (i + 1) := by rw [List.length_drop, ints_len]
   revert a;refine pM 1 rfl (pL (pT (pS (pS (pG (pM 1 rfl (pP (p_len Tryz.underlying23 rfl) rfl (pP (p_gtr rfl rfl) rfl (pM 1 rfl ?_)))))))));intro a S
   refine l_split (S.of 26 rfl) (fun bc10 => ?_) (fun bc10 => ?_)
   ·
    have c10 := of_decide_eq_true bc10
    obtain ⟨go11, o11, rfl, hRo11⟩ := hsb7.get (i := 0) (by omega)
    revert a;refine pN bc10 (pP (p_move rfl) rfl (pN bc10 ?_));intro a S
    have hcon := word_ _ _ _ cb7 ((ints s).drop (i + 1)) (hRo11.old H) (by omega) (ints_by s _)
    revert a;refine pC Tryz.func92 hcon ?_
    rintro e w ⟨x1, rfl, hx1, hb⟩
    refine ⟨_, rfl, ?_⟩
    intro a S
    replace H := H.later hb; clear hcon hb
    revert a;refine pN bc10 (pP (p_and rfl rfl (and64 x1 9259542123273814144#64)) rfl (pN bc10 (pP (p_eql rfl rfl) rfl (pP (p_pick_t rfl bc10 rfl) rfl (pL (pT (zc rfl (fun bc14 => ?_) (fun bc14 => ?_))))))))
    ·
     intro a S
     have c14 := eq_of_beq bc14
     have hV9 : up.V s 0 = up.V s (i + 1 + 8) := hV1.trans (V_word hx1 c14 (by omega))
     revert a;refine pS (pG (pM 1 rfl ?_));intro a S
     have hsb15 := hsb7.drop (m := 8) (by omega)
     revert a;refine pP (p_slice rfl (o_some rfl) (fun _ _ => o_none) (fun _ _ => o_none) (fun w => sl_sb_lo (m := 8) Tryz.underlying23 sz5 rfl (by omega))) rfl ?_;intro a S
     rw [List.drop_drop] at S hsb15
     revert S; revert hsb15
     generalize cutAt _ _ 8 1 = Ab15
     generalize _ - 8 = cb15
     intro hsb15 S
     have hln16 : ((ints s).drop ((i + 1) + 8)).length = s.size - ((i + 1) + 8) := by rw [List.length_drop, ints_len]
     revert a;refine pM 1 rfl (pL (pT (pS ?_)));intro a S
     refine d_start (id := 8) [] 13 (bA 13 0) H rfl rfl rfl (fun w H => ?_)
     revert a;refine qM [0] rfl (qP 1 rfl (p_len Tryz.underlying23 rfl) rfl (qP 2 rfl (p_gtr rfl rfl) rfl (qM [3] rfl ?_)));intro a S
     refine d_split (S.of 37 rfl) (fun bc18 => ?_) (fun bc18 => ?_)
     ·
      have c18 := of_decide_eq_true bc18
      obtain ⟨go19, o19, rfl, hRo19⟩ := hsb15.get (i := 0) (by omega)
      revert a;refine qW 4 rfl (p_move rfl) bc18 rfl (qW 6 rfl (p_move rfl) bc18 rfl ?_);intro a S
      have hsb20 := hsb15.drop (m := 8) (by omega)
      revert a;refine qW 7 rfl (p_slice rfl (o_some rfl) (fun _ _ => o_none) (fun _ _ => o_none) (fun w => sl_sb_lo (m := 8) Tryz.underlying23 sz5 rfl (by omega))) bc18 rfl ?_;intro a S
      rw [List.drop_drop] at S hsb20
      revert S; revert hsb20
      generalize cutAt _ _ 8 1 = Ab20
      generalize _ - 8 = cb20
      intro hsb20 S
      have hln21 : ((ints s).drop (((i + 1) + 8) + 8)).length = s.size - (((i + 1) + 8) + 8) := by rw [List.length_drop, ints_len]
      have hcon := word_ _ _ _ cb15 ((ints s).drop ((i + 1) + 8)) (hRo19.old H) (by omega) (ints_by s _)
      refine d_call (i := 5) (bA 13 255) S rfl rfl rfl Tryz.func92 rfl rfl (hcon) (wanted_on S rfl rfl rfl rfl bc18) rfl rfl (by kernel_rfl) rfl ?_
      rintro e w ⟨x22, rfl, hx22, hb⟩
      refine ⟨_, rfl, H.later hb, ?_⟩; replace H := H.later hb; clear hb hcon;clear S a
      intro a S
      obtain ⟨go24, o24, rfl, hRo24⟩ := hsb20.get (i := 0) (by omega)
      have hcon := word_ _ _ _ cb20 ((ints s).drop (((i + 1) + 8) + 8)) (hRo24.old H) (by omega) (ints_by s _)
      refine d_call (i := 8) (bA 13 511) S rfl rfl rfl Tryz.func92 rfl rfl (hcon) (wanted_on S rfl rfl rfl rfl bc18) rfl rfl (by kernel_rfl) rfl ?_
      rintro e w ⟨x23, rfl, hx23, hb⟩
      refine ⟨_, rfl, H.later hb, ?_⟩; replace H := H.later hb; clear hb hcon;clear S a
      refine qW 9 rfl (p_or rfl rfl (or64 x22 x23)) bc18 rfl (qW 10 rfl (p_and rfl rfl (and64 (x22 ||| x23) 9259542123273814144#64)) bc18 rfl (qW 11 rfl (p_eql rfl rfl) bc18 rfl (qP 12 rfl (p_pick_t rfl bc18 rfl) rfl (qD (pT (zc rfl (fun bc26 => ?_) (fun bc26 => ?_)))))))
      ·
       intro a S
       have c26 := eq_of_beq bc26
       obtain ⟨hm1, hm2⟩ := mask_or c26
       have hV25 : up.V s 0 = up.V s (i + 1 + 8 + 16) := (hV9.trans (V_word hx22 hm1 (by omega))).trans (V_word hx23 hm2 (by omega))
       revert a;refine pS (pG (pM 1 rfl ?_));intro a S
       have hsb27 := hsb15.drop (m := 16) (by omega)
       revert a;refine pP (p_slice rfl (o_some rfl) (fun _ _ => o_none) (fun _ _ => o_none) (fun w => sl_sb_lo (m := 16) Tryz.underlying23 sz5 rfl (by omega))) rfl ?_;intro a S
       rw [List.drop_drop] at S hsb27
       revert S; revert hsb27
       generalize cutAt _ _ 16 1 = Ab27
       generalize _ - 16 = cb27
       intro hsb27 S
       have hln28 : ((ints s).drop (((i + 1) + 8) + 16)).length = s.size - (((i + 1) + 8) + 16) := by rw [List.length_drop, ints_len]
       revert a;refine pM 1 rfl (pL (pT (pB ?_)));intro a S
       refine c_loop (σ := Nat × Option Addr × Nat) (fun s_ a w => match s_ with | ⟨j, A, c⟩ => SL a 188 [] [(0, .slice A ((ints s).drop j).length c)] ∧ HH (w0.heap.size) w0 w [] ∧ (i + 25 ≤ j ∧ j ≤ s.size ∧ up.V s 0 = up.V s j ∧ SB w0 A c ((ints s).drop j))) (fun s_ => match s_ with | ⟨j, A, c⟩ => s.size - j) ⟨(((i + 1) + 8) + 16), _, _⟩ ⟨S.only ⟨rfl, trivial⟩, H, ⟨by omega, by omega, hV25, hsb27⟩⟩ ?_
       clear S a H; rintro ⟨j, A, c⟩ a w ⟨S, H, hinv⟩
       obtain ⟨hij, hj, hVj, ht⟩ := hinv
       have hlj : ((ints s).drop j).length = s.size - j := by rw [List.length_drop, ints_len]
       revert a;refine pS (pS ?_);intro a S
       refine d_start (id := 10) [] 21 (bA 21 0) H rfl rfl rfl (fun w H => ?_)
       revert a;refine qM [0] rfl (qP 1 rfl (p_len Tryz.underlying23 rfl) rfl (qP 2 rfl (p_gtr rfl rfl) rfl (qM [3] rfl ?_)));intro a S
       refine d_split (S.of 52 rfl) (fun bc30 => ?_) (fun bc30 => ?_)
       ·
        have c30 := of_decide_eq_true bc30
        obtain ⟨go31, o31, rfl, hRo31⟩ := ht.get (i := 0) (by omega)
        revert a;refine qW 4 rfl (p_move rfl) bc30 rfl (qW 6 rfl (p_move rfl) bc30 rfl ?_);intro a S
        have hsb32 := ht.drop (m := 8) (by omega)
        revert a;refine qW 7 rfl (p_slice rfl (o_some rfl) (fun _ _ => o_none) (fun _ _ => o_none) (fun w => sl_sb_lo (m := 8) Tryz.underlying23 sz5 rfl (by omega))) bc30 rfl ?_;intro a S
        rw [List.drop_drop] at S hsb32
        revert S; revert hsb32
        generalize cutAt _ _ 8 1 = Ab32
        generalize _ - 8 = cb32
        intro hsb32 S
        have hln33 : ((ints s).drop (j + 8)).length = s.size - (j + 8) := by rw [List.length_drop, ints_len]
        revert a;refine qW 10 rfl (p_move rfl) bc30 rfl ?_;intro a S
        have hsb34 := ht.drop (m := 16) (by omega)
        revert a;refine qW 11 rfl (p_slice rfl (o_some rfl) (fun _ _ => o_none) (fun _ _ => o_none) (fun w => sl_sb_lo (m := 16) Tryz.underlying23 sz5 rfl (by omega))) bc30 rfl ?_;intro a S
        rw [List.drop_drop] at S hsb34
        revert S; revert hsb34
        generalize cutAt _ _ 16 1 = Ab34
        generalize _ - 16 = cb34
        intro hsb34 S
        have hln35 : ((ints s).drop (j + 16)).length = s.size - (j + 16) := by rw [List.length_drop, ints_len]
        revert a;refine qW 13 rfl (p_move rfl) bc30 rfl ?_;intro a S
        have hsb36 := ht.drop (m := 24) (by omega)
        revert a;refine qW 14 rfl (p_slice rfl (o_some rfl) (fun _ _ => o_none) (fun _ _ => o_none) (fun w => sl_sb_lo (m := 24) Tryz.underlying23 sz5 rfl (by omega))) bc30 rfl ?_;intro a S
        rw [List.drop_drop] at S hsb36
        revert S; revert hsb36
        generalize cutAt _ _ 24 1 = Ab36
        generalize _ - 24 = cb36
        intro hsb36 S
        have hln37 : ((ints s).drop (j + 24)).length = s.size - (j + 24) := by rw [List.length_drop, ints_len]
        have hcon := word_ _ _ _ c ((ints s).drop j) (hRo31.old H) (by omega) (ints_by s _)
        refine d_call (i := 5) (bA 21 27903) S rfl rfl rfl Tryz.func92 rfl rfl (hcon) (wanted_on S rfl rfl rfl rfl bc30) rfl rfl (by kernel_rfl) rfl ?_
        rintro e w ⟨x38, rfl, hx38, hb⟩
        refine ⟨_, rfl, H.later hb, ?_⟩; replace H := H.later hb; clear hb hcon;clear S a
        intro a S
        obtain ⟨go40, o40, rfl, hRo40⟩ := hsb32.get (i := 0) (by omega)
        have hcon := word_ _ _ _ cb32 ((ints s).drop (j + 8)) (hRo40.old H) (by omega) (ints_by s _)
        refine d_call (i := 8) (bA 21 28159) S rfl rfl rfl Tryz.func92 rfl rfl (hcon) (wanted_on S rfl rfl rfl rfl bc30) rfl rfl (by kernel_rfl) rfl ?_
        rintro e w ⟨x39, rfl, hx39, hb⟩
        refine ⟨_, rfl, H.later hb, ?_⟩; replace H := H.later hb; clear hb hcon;clear S a
        refine qW 9 rfl (p_or rfl rfl (or64 x38 x39)) bc30 rfl ?_;intro a S
        obtain ⟨go42, o42, rfl, hRo42⟩ := hsb34.get (i := 0) (by omega)
        have hcon := word_ _ _ _ cb34 ((ints s).drop (j + 16)) (hRo42.old H) (by omega) (ints_by s _)
        refine d_call (i := 12) (bA 21 32767) S rfl rfl rfl Tryz.func92 rfl rfl (hcon) (wanted_on S rfl rfl rfl rfl bc30) rfl rfl (by kernel_rfl) rfl ?_
        rintro e w ⟨x41, rfl, hx41, hb⟩
        refine ⟨_, rfl, H.later hb, ?_⟩; replace H := H.later hb; clear hb hcon;clear S a
        intro a S
        obtain ⟨go44, o44, rfl, hRo44⟩ := hsb36.get (i := 0) (by omega)
        have hcon := word_ _ _ _ cb36 ((ints s).drop (j + 24)) (hRo44.old H) (by omega) (ints_by s _)
        refine d_call (i := 15) (bA 21 65535) S rfl rfl rfl Tryz.func92 rfl rfl (hcon) (wanted_on S rfl rfl rfl rfl bc30) rfl rfl (by kernel_rfl) rfl ?_
        rintro e w ⟨x43, rfl, hx43, hb⟩
        refine ⟨_, rfl, H.later hb, ?_⟩; replace H := H.later hb; clear hb hcon;clear S a
        refine qW 16 rfl (p_or rfl rfl (or64 x41 x43)) bc30 rfl (qW 17 rfl (p_or rfl rfl (or64 (x38 ||| x39) (x41 ||| x43))) bc30 rfl (qW 18 rfl (p_and rfl rfl (and64 ((x38 ||| x39) ||| (x41 ||| x43)) 9259542123273814144#64)) bc30 rfl (qW 19 rfl (p_eql rfl rfl) bc30 rfl (qP 20 rfl (p_pick_t rfl bc30 rfl) rfl (qD (pT (zc rfl (fun bc46 => ?_) (fun bc46 => ?_))))))))
        ·
         intro a S
         have c46 := eq_of_beq bc46
         obtain ⟨hm12, hm34⟩ := mask_or c46
         obtain ⟨hm1, hm2⟩ := mask_or hm12
         obtain ⟨hm3, hm4⟩ := mask_or hm34
         have hVj2 : up.V s 0 = up.V s (j + 32) := (((hVj.trans (V_word hx38 hm1 (by omega))).trans (V_word hx39 hm2 (by omega))).trans (V_word hx41 hm3 (by omega))).trans (V_word hx43 hm4 (by omega))
         revert a;refine pK (pT (pB (pG (pM 1 rfl ?_))));intro a S
         have hsb47 := ht.drop (m := 32) (by omega)
         revert a;refine pP (p_slice rfl (o_some rfl) (fun _ _ => o_none) (fun _ _ => o_none) (fun w => sl_sb_lo (m := 32) Tryz.underlying23 sz5 rfl (by omega))) rfl ?_;intro a S
         rw [List.drop_drop] at S hsb47
         revert S; revert hsb47
         generalize cutAt _ _ 32 1 = Ab47
         generalize _ - 32 = cb47
         intro hsb47 S
         have hln48 : ((ints s).drop (j + 32)).length = s.size - (j + 32) := by rw [List.length_drop, ints_len]
         revert a;refine pM 1 rfl (pL (pI 3 (pT ?_)));intro a S
         exact ⟨⟨(j + 32), _, _⟩, ⟨S.only ⟨rfl, trivial⟩, H, ⟨by omega, by omega, hVj2, hsb47⟩⟩, (show s.size - (j + 32) < s.size - j from by omega)⟩
        intro a S
        have c46 := ne_of_beq_false bc46
        revert a;refine pX (pV (pV (pW (pT (pX (pV (pW (pT ?_))))))));intro a S
        exact ⟨⟨j, _, _⟩, ⟨S.only ⟨rfl, trivial⟩, H, ⟨by omega, hVj, ht⟩⟩, (show s.size - j < s.size - i from by omega)⟩
       have c30 := of_decide_eq_false bc30
       revert a;refine qO 4 rfl bc30 rfl (qO 6 rfl bc30 rfl (qO 7 rfl bc30 rfl (qO 10 rfl bc30 rfl (qO 11 rfl bc30 rfl (qO 13 rfl bc30 rfl (qO 14 rfl bc30 rfl (qO 5 rfl bc30 rfl (qO 8 rfl bc30 rfl (qO 9 rfl bc30 rfl (qO 12 rfl bc30 rfl (qO 15 rfl bc30 rfl (qO 16 rfl bc30 rfl (qO 17 rfl bc30 rfl (qO 18 rfl bc30 rfl (qO 19 rfl bc30 rfl (qP 20 rfl (p_pick_f rfl bc30 rfl) rfl (qD (pT (zf (pX (pV (pV (pW (pT (pX (pV (pW (pT ?_))))))))))))))))))))))))))));intro a S
       exact ⟨⟨j, _, _⟩, ⟨S.only ⟨rfl, trivial⟩, H, ⟨by omega, hVj, ht⟩⟩, (show s.size - j < s.size - i from by omega)⟩
      intro a S
      have c26 := ne_of_beq_false bc26
      revert a;refine pK (pT (pX (pV (pW (pT ?_)))));intro a S
      exact ⟨⟨((i + 1) + 8), _, _⟩, ⟨S.only ⟨rfl, trivial⟩, H, ⟨by omega, hV9, hsb15⟩⟩, (show s.size - ((i + 1) + 8) < s.size - i from by omega)⟩
     have c18 := of_decide_eq_false bc18
     revert a;refine qO 4 rfl bc18 rfl (qO 6 rfl bc18 rfl (qO 7 rfl bc18 rfl (qO 5 rfl bc18 rfl (qO 8 rfl bc18 rfl (qO 9 rfl bc18 rfl (qO 10 rfl bc18 rfl (qO 11 rfl bc18 rfl (qP 12 rfl (p_pick_f rfl bc18 rfl) rfl (qD (pT (zf (pK (pT (pX (pV (pW (pT ?_)))))))))))))))));intro a S
     exact ⟨⟨((i + 1) + 8), _, _⟩, ⟨S.only ⟨rfl, trivial⟩, H, ⟨by omega, hV9, hsb15⟩⟩, (show s.size - ((i + 1) + 8) < s.size - i from by omega)⟩
    intro a S
    have c14 := ne_of_beq_false bc14
    revert a;refine pK (pT (pX (pV (pW (pT ?_)))));intro a S
    exact ⟨⟨(i + 1), _, _⟩, ⟨S.only ⟨rfl, trivial⟩, H, ⟨by omega, hV1, hsb7⟩⟩, (show s.size - (i + 1) < s.size - i from by omega)⟩
   have c10 := of_decide_eq_false bc10
   revert a;refine pO bc10 rfl (pO bc10 rfl (pO bc10 rfl (pO bc10 rfl (pP (p_pick_f rfl bc10 rfl) rfl (pL (pT (zf (pK (pT (pX (pV (pW (pT ?_)))))))))))));intro a S
   exact ⟨⟨(i + 1), _, _⟩, ⟨S.only ⟨rfl, trivial⟩, H, ⟨by omega, hV1, hsb7⟩⟩, (show s.size - (i + 1) < s.size - i from by omega)⟩
  intro a S
  have c6 := of_decide_eq_false bc6
  revert a;refine pK (pT (pS (pG (pM 1 rfl (pP (p_indexAddr rfl rfl (fun w => ia_array Tryz.underlying94 sz5 (by omega) (by omega))) rfl (pR H (r_tab (i := (HHW.bt s (i : Int)).toNat) rfl (by omega) (hT.1 _ (by omega)) rfl ag5) rfl ?_))))));intro a S
  have hlead := up.V_lead (s := s) (i := i) (by omega) (by omega)
  have hfl := firstT_lt (HHW.bt s (i : Int)).toNat
  revert S hlead hfl
  generalize Lib.firstT (HHW.bt s (i : Int)).toNat = f
  intro S hlead hfl
  revert a;refine pM 1 rfl (pL (pT (pS (pG (pM 1 rfl (pP (p_and (r := ((f % 8 : Nat) : Int)) rfl rfl (and7 ⟨f, hfl⟩)) rfl (pP (p_conv rfl (fun w => cv_int (Tryz.underlying5) (Tryz.underlying3) (r := ((f % 8 : Nat) : Int)) (IntWalk.i64_in _ (by omega)))) rfl (pM 1 rfl (pL (pT (pS (pG (pM 1 rfl (pP (p_shr (r := ((f / 16 : Nat) : Int)) rfl rfl (by decide) (shr4 f)) rfl (pP (p_indexAddr rfl rfl (fun w => ia_array Tryz.underlying132 sz131 (by omega) (by omega))) rfl (pR H (r_pairG (i := 2 * (f / 16)) rfl (by omega) (hT.2 (f / 16) (by omega)).1 (hT.2 (f / 16) (by omega)).2 rfl ag131 sz131) rfl ?_))))))))))))))));intro a S
  refine l_alloc (cs := #[.int .u8 0, .int .u8 0]) S H rfl (fun w => al zv131) rfl rfl rfl ?_; clear S a H; intro g55 w a H S
  revert a;refine pF [.int .u8 ((Lib.accLo (f / 16) : Nat) : Int), .int .u8 ((Lib.accHi (f / 16) : Nat) : Int)] H rfl rfl sz131 .here ?_;clear H;intro w H
  refine pL (pT (pS (pG (pM 1 rfl (pL (pT (pB (pS (pG (pP (p_eql rfl rfl) rfl (pM 1 rfl (pL (pT (zc rfl (fun bc57 => ?_) (fun bc57 => ?_)))))))))))))))
  ·
   intro a S
   have c57 := eq_of_beq bc57
   revert a;refine pS (pS ?_);intro a S
   refine d_start (id := 18) [] 19 (bA 19 0) H rfl rfl rfl (fun w H => ?_)
   revert a;refine qM [0] rfl (qP 1 rfl (p_len Tryz.underlying23 rfl) rfl (qP 2 rfl (p_lss rfl rfl) rfl (qM [3] rfl ?_)));intro a S
   refine d_split (S.of 88 rfl) (fun bc59 => ?_) (fun bc59 => ?_)
   ·
    have c59 := of_decide_eq_true bc59
    revert a;refine qO 4 rfl bc59 rfl (qO 5 rfl bc59 rfl (qO 6 rfl bc59 rfl (qO 7 rfl bc59 rfl (qO 8 rfl bc59 rfl (qO 9 rfl bc59 rfl (qP 10 rfl (p_pick_t rfl bc59 rfl) rfl (qM [11] rfl (qO 12 rfl rfl rfl (qO 13 rfl rfl rfl (qO 14 rfl rfl rfl (qO 15 rfl rfl rfl (qO 16 rfl rfl rfl (qO 17 rfl rfl rfl (qP 18 rfl (p_pick_t rfl rfl rfl) rfl (qD (pT (zt (pS (pG (pM 1 rfl (pL (pT (pZ (pU (pJ (pJ (pU (pJ (pU ?_)))))))))))))))))))))))))))));intro a S
    have hbad : up.V s i = false := by
     have e1 : Lib.checkN (s.size - i) (HHW.bt s ((i + 1 : Nat) : Int)).toNat (HHW.bt s ((i + 2 : Nat) : Int)).toNat (HHW.bt s ((i + 3 : Nat) : Int)).toNat (f % 8) (Lib.accLo (f / 16)) (Lib.accHi (f / 16)) = none := by
      unfold Lib.checkN; repeat' split
      all_goals first | rfl | (exfalso; omega)
     rw [hlead, e1]
    exact r_ret1 S rfl rfl ⟨by rw [hV, hbad], H.below⟩
   have c59 := of_decide_eq_false bc59
   revert a;refine qW 4 rfl (p_move rfl) bc59 rfl (qW 5 rfl (p_indexAddr rfl rfl (fun w => ia_slice Tryz.underlying23 sz5 (by omega) (by omega))) bc59 rfl (qV 6 H rfl (r_byte (l := ((ints s).drop i)) (i := 1) (v := HHW.bt s ((i + 1 : Nat) : Int)) rfl (by omega) ag5 hRo4 rfl (int_at s rfl (by omega))) bc59 rfl (qX 7 fa131_0 rfl rfl rfl bc59 rfl (qF 8 H rfl rfl rfl m0 rfl ag5 bc59 rfl (qW 9 rfl (p_lss rfl rfl) bc59 rfl (qP 10 rfl (p_pick_f rfl bc59 rfl) rfl (qM [11] rfl ?_)))))));intro a S
   refine d_split (S.of 96 rfl) (fun bc65 => ?_) (fun bc65 => ?_)
   ·
    have c65 := of_decide_eq_true bc65
    revert a;refine qO 12 rfl bc65 rfl (qO 13 rfl bc65 rfl (qO 14 rfl bc65 rfl (qO 15 rfl bc65 rfl (qO 16 rfl bc65 rfl (qO 17 rfl bc65 rfl (qP 18 rfl (p_pick_t rfl bc65 rfl) rfl (qD (pT (zt (pS (pG (pM 1 rfl (pL (pT (pZ (pU (pJ (pJ (pU (pJ (pU ?_)))))))))))))))))))));intro a S
    have hbad : up.V s i = false := by
     have e1 : Lib.checkN (s.size - i) (HHW.bt s ((i + 1 : Nat) : Int)).toNat (HHW.bt s ((i + 2 : Nat) : Int)).toNat (HHW.bt s ((i + 3 : Nat) : Int)).toNat (f % 8) (Lib.accLo (f / 16)) (Lib.accHi (f / 16)) = none := by
      unfold Lib.checkN; repeat' split
      all_goals first | rfl | (exfalso; omega)
     rw [hlead, e1]
    exact r_ret1 S rfl rfl ⟨by rw [hV, hbad], H.below⟩
   have c65 := of_decide_eq_false bc65
   revert a;refine qX 12 fa131_1 rfl rfl rfl bc65 rfl (qF 13 H rfl rfl rfl m0 rfl ag5 bc65 rfl (qW 14 rfl (p_move rfl) bc65 rfl (qW 15 rfl (p_indexAddr rfl rfl (fun w => ia_slice Tryz.underlying23 sz5 (by omega) (by omega))) bc65 rfl (qV 16 H rfl (r_byte (l := ((ints s).drop i)) (i := 1) (v := HHW.bt s ((i + 1 : Nat) : Int)) rfl (by omega) ag5 hRo4 rfl (int_at s rfl (by omega))) bc65 rfl (qW 17 rfl (p_lss rfl rfl) bc65 rfl (qP 18 rfl (p_pick_f rfl bc65 rfl) rfl (qD (pT (zc rfl (fun bc70 => ?_) (fun bc70 => ?_))))))))))
   ·
    intro a S
    have c70 := of_decide_eq_true bc70
    revert a;refine pS (pG (pM 1 rfl (pL (pT (pZ (pU (pJ (pJ (pU (pJ (pU ?_)))))))))));intro a S
    have hbad : up.V s i = false := by
     have e1 : Lib.checkN (s.size - i) (HHW.bt s ((i + 1 : Nat) : Int)).toNat (HHW.bt s ((i + 2 : Nat) : Int)).toNat (HHW.bt s ((i + 3 : Nat) : Int)).toNat (f % 8) (Lib.accLo (f / 16)) (Lib.accHi (f / 16)) = none := by
      unfold Lib.checkN; repeat' split
      all_goals first | rfl | (exfalso; omega)
     rw [hlead, e1]
    exact r_ret1 S rfl rfl ⟨by rw [hV, hbad], H.below⟩
   intro a S
   have c70 := of_decide_eq_false bc70
   revert a;refine pK (pT (pG (pM 1 rfl ?_)));intro a S
   have hVk : up.V s 0 = up.V s (i + 2) := hV.trans (hlead.trans (by unfold Lib.checkN; simp only [show f % 8 = 2 by omega, if_true, if_false, Nat.reduceEqDiff]; rw [if_neg (by omega)]))
   have hsb72 := hq.drop (m := 2) (by omega)
   revert a;refine pP (p_slice rfl (o_some rfl) (fun _ _ => o_none) (fun _ _ => o_none) (fun w => sl_sb_lo (m := 2) Tryz.underlying23 sz5 rfl (by omega))) rfl ?_;intro a S
   rw [List.drop_drop] at S hsb72
   revert S; revert hsb72
   generalize cutAt _ _ 2 1 = Ab72
   generalize _ - 2 = cb72
   intro hsb72 S
   have hln73 : ((ints s).drop (i + 2)).length = s.size - (i + 2) := by rw [List.length_drop, ints_len]
   revert a;refine pM 1 rfl (pL (pI 4 (pI 1 (pT ?_))));intro a S
   exact ⟨⟨(i + 2), _, _⟩, ⟨S.only ⟨rfl, trivial⟩, H.tail, ⟨by omega, hVk, hsb72⟩⟩, (show s.size - (i + 2) < s.size - i from by omega)⟩
  intro a S
  have c57 := ne_of_beq_false bc57
  revert a;refine pS (pG (pP (p_eql rfl rfl) rfl (pM 1 rfl (pL (pT (zc rfl (fun bc75 => ?_) (fun bc75 => ?_)))))))
  ·
   intro a S
   have c75 := eq_of_beq bc75
   revert a;refine pS (pS ?_);intro a S
   refine d_start (id := 22) [] 31 (bA 31 0) H rfl rfl rfl (fun w H => ?_)
   revert a;refine qM [0] rfl (qP 1 rfl (p_len Tryz.underlying23 rfl) rfl (qP 2 rfl (p_lss rfl rfl) rfl (qM [3] rfl ?_)));intro a S
   refine d_split (S.of 111 rfl) (fun bc77 => ?_) (fun bc77 => ?_)
   ·
    have c77 := of_decide_eq_true bc77
    revert a;refine qO 4 rfl bc77 rfl (qO 5 rfl bc77 rfl (qO 6 rfl bc77 rfl (qO 7 rfl bc77 rfl (qO 8 rfl bc77 rfl (qO 9 rfl bc77 rfl (qP 10 rfl (p_pick_t rfl bc77 rfl) rfl (qM [11] rfl (qO 12 rfl rfl rfl (qO 13 rfl rfl rfl (qO 14 rfl rfl rfl (qO 15 rfl rfl rfl (qO 16 rfl rfl rfl (qO 17 rfl rfl rfl (qP 18 rfl (p_pick_t rfl rfl rfl) rfl (qM [19] rfl (qO 20 rfl rfl rfl (qO 21 rfl rfl rfl (qO 22 rfl rfl rfl (qO 23 rfl rfl rfl (qP 24 rfl (p_pick_t rfl rfl rfl) rfl (qM [25] rfl (qO 26 rfl rfl rfl (qO 27 rfl rfl rfl (qO 28 rfl rfl rfl (qO 29 rfl rfl rfl (qP 30 rfl (p_pick_t rfl rfl rfl) rfl (qD (pT (zt (pS (pG (pM 1 rfl (pL (pT (pZ (pU (pJ (pJ (pU (pJ (pU ?_)))))))))))))))))))))))))))))))))))))))));intro a S
    have hbad : up.V s i = false := by
     have e1 : Lib.checkN (s.size - i) (HHW.bt s ((i + 1 : Nat) : Int)).toNat (HHW.bt s ((i + 2 : Nat) : Int)).toNat (HHW.bt s ((i + 3 : Nat) : Int)).toNat (f % 8) (Lib.accLo (f / 16)) (Lib.accHi (f / 16)) = none := by
      unfold Lib.checkN; repeat' split
      all_goals first | rfl | (exfalso; omega)
     rw [hlead, e1]
    exact r_ret1 S rfl rfl ⟨by rw [hV, hbad], H.below⟩
   have c77 := of_decide_eq_false bc77
   revert a;refine qW 4 rfl (p_move rfl) bc77 rfl (qW 5 rfl (p_indexAddr rfl rfl (fun w => ia_slice Tryz.underlying23 sz5 (by omega) (by omega))) bc77 rfl (qV 6 H rfl (r_byte (l := ((ints s).drop i)) (i := 1) (v := HHW.bt s ((i + 1 : Nat) : Int)) rfl (by omega) ag5 hRo4 rfl (int_at s rfl (by omega))) bc77 rfl (qX 7 fa131_0 rfl rfl rfl bc77 rfl (qF 8 H rfl rfl rfl m0 rfl ag5 bc77 rfl (qW 9 rfl (p_lss rfl rfl) bc77 rfl (qP 10 rfl (p_pick_f rfl bc77 rfl) rfl (qM [11] rfl ?_)))))));intro a S
   refine d_split (S.of 119 rfl) (fun bc85 => ?_) (fun bc85 => ?_)
   ·
    have c85 := of_decide_eq_true bc85
    revert a;refine qO 12 rfl bc85 rfl (qO 13 rfl bc85 rfl (qO 14 rfl bc85 rfl (qO 15 rfl bc85 rfl (qO 16 rfl bc85 rfl (qO 17 rfl bc85 rfl (qP 18 rfl (p_pick_t rfl bc85 rfl) rfl (qM [19] rfl (qO 20 rfl rfl rfl (qO 21 rfl rfl rfl (qO 22 rfl rfl rfl (qO 23 rfl rfl rfl (qP 24 rfl (p_pick_t rfl rfl rfl) rfl (qM [25] rfl (qO 26 rfl rfl rfl (qO 27 rfl rfl rfl (qO 28 rfl rfl rfl (qO 29 rfl rfl rfl (qP 30 rfl (p_pick_t rfl rfl rfl) rfl (qD (pT (zt (pS (pG (pM 1 rfl (pL (pT (pZ (pU (pJ (pJ (pU (pJ (pU ?_)))))))))))))))))))))))))))))))));intro a S
    have hbad : up.V s i = false := by
     have e1 : Lib.checkN (s.size - i) (HHW.bt s ((i + 1 : Nat) : Int)).toNat (HHW.bt s ((i + 2 : Nat) : Int)).toNat (HHW.bt s ((i + 3 : Nat) : Int)).toNat (f % 8) (Lib.accLo (f / 16)) (Lib.accHi (f / 16)) = none := by
      unfold Lib.checkN; repeat' split
      all_goals first | rfl | (exfalso; omega)
     rw [hlead, e1]
    exact r_ret1 S rfl rfl ⟨by rw [hV, hbad], H.below⟩
   have c85 := of_decide_eq_false bc85
   revert a;refine qX 12 fa131_1 rfl rfl rfl bc85 rfl (qF 13 H rfl rfl rfl m0 rfl ag5 bc85 rfl (qW 14 rfl (p_move rfl) bc85 rfl (qW 15 rfl (p_indexAddr rfl rfl (fun w => ia_slice Tryz.underlying23 sz5 (by omega) (by omega))) bc85 rfl (qV 16 H rfl (r_byte (l := ((ints s).drop i)) (i := 1) (v := HHW.bt s ((i + 1 : Nat) : Int)) rfl (by omega) ag5 hRo4 rfl (int_at s rfl (by omega))) bc85 rfl (qW 17 rfl (p_lss rfl rfl) bc85 rfl (qP 18 rfl (p_pick_f rfl bc85 rfl) rfl (qM [19] rfl ?_)))))));intro a S
   refine d_split (S.of 127 rfl) (fun bc92 => ?_) (fun bc92 => ?_)
   ·
    have c92 := of_decide_eq_true bc92
    revert a;refine qO 20 rfl bc92 rfl (qO 21 rfl bc92 rfl (qO 22 rfl bc92 rfl (qO 23 rfl bc92 rfl (qP 24 rfl (p_pick_t rfl bc92 rfl) rfl (qM [25] rfl (qO 26 rfl rfl rfl (qO 27 rfl rfl rfl (qO 28 rfl rfl rfl (qO 29 rfl rfl rfl (qP 30 rfl (p_pick_t rfl rfl rfl) rfl (qD (pT (zt (pS (pG (pM 1 rfl (pL (pT (pZ (pU (pJ (pJ (pU (pJ (pU ?_)))))))))))))))))))))))));intro a S
    have hbad : up.V s i = false := by
     have e1 : Lib.checkN (s.size - i) (HHW.bt s ((i + 1 : Nat) : Int)).toNat (HHW.bt s ((i + 2 : Nat) : Int)).toNat (HHW.bt s ((i + 3 : Nat) : Int)).toNat (f % 8) (Lib.accLo (f / 16)) (Lib.accHi (f / 16)) = none := by
      unfold Lib.checkN; repeat' split
      all_goals first | rfl | (exfalso; omega)
     rw [hlead, e1]
    exact r_ret1 S rfl rfl ⟨by rw [hV, hbad], H.below⟩
   have c92 := of_decide_eq_false bc92
   revert a;refine qW 20 rfl (p_move rfl) bc92 rfl (qW 21 rfl (p_indexAddr rfl rfl (fun w => ia_slice Tryz.underlying23 sz5 (by omega) (by omega))) bc92 rfl (qV 22 H rfl (r_byte (l := ((ints s).drop i)) (i := 2) (v := HHW.bt s ((i + 2 : Nat) : Int)) rfl (by omega) ag5 hRo4 rfl (int_at s rfl (by omega))) bc92 rfl (qW 23 rfl (p_lss rfl rfl) bc92 rfl (qP 24 rfl (p_pick_f rfl bc92 rfl) rfl (qM [25] rfl ?_)))));intro a S
   refine d_split (S.of 133 rfl) (fun bc98 => ?_) (fun bc98 => ?_)
   ·
    have c98 := of_decide_eq_true bc98
    revert a;refine qO 26 rfl bc98 rfl (qO 27 rfl bc98 rfl (qO 28 rfl bc98 rfl (qO 29 rfl bc98 rfl (qP 30 rfl (p_pick_t rfl bc98 rfl) rfl (qD (pT (zt (pS (pG (pM 1 rfl (pL (pT (pZ (pU (pJ (pJ (pU (pJ (pU ?_)))))))))))))))))));intro a S
    have hbad : up.V s i = false := by
     have e1 : Lib.checkN (s.size - i) (HHW.bt s ((i + 1 : Nat) : Int)).toNat (HHW.bt s ((i + 2 : Nat) : Int)).toNat (HHW.bt s ((i + 3 : Nat) : Int)).toNat (f % 8) (Lib.accLo (f / 16)) (Lib.accHi (f / 16)) = none := by
      unfold Lib.checkN; repeat' split
      all_goals first | rfl | (exfalso; omega)
     rw [hlead, e1]
    exact r_ret1 S rfl rfl ⟨by rw [hV, hbad], H.below⟩
   have c98 := of_decide_eq_false bc98
   revert a;refine qW 26 rfl (p_move rfl) bc98 rfl (qW 27 rfl (p_indexAddr rfl rfl (fun w => ia_slice Tryz.underlying23 sz5 (by omega) (by omega))) bc98 rfl (qV 28 H rfl (r_byte (l := ((ints s).drop i)) (i := 2) (v := HHW.bt s ((i + 2 : Nat) : Int)) rfl (by omega) ag5 hRo4 rfl (int_at s rfl (by omega))) bc98 rfl (qW 29 rfl (p_lss rfl rfl) bc98 rfl (qP 30 rfl (p_pick_f rfl bc98 rfl) rfl (qD (pT (zc rfl (fun bc103 => ?_) (fun bc103 => ?_))))))))
   ·
    intro a S
    have c103 := of_decide_eq_true bc103
    revert a;refine pS (pG (pM 1 rfl (pL (pT (pZ (pU (pJ (pJ (pU (pJ (pU ?_)))))))))));intro a S
    have hbad : up.V s i = false := by
     have e1 : Lib.checkN (s.size - i) (HHW.bt s ((i + 1 : Nat) : Int)).toNat (HHW.bt s ((i + 2 : Nat) : Int)).toNat (HHW.bt s ((i + 3 : Nat) : Int)).toNat (f % 8) (Lib.accLo (f / 16)) (Lib.accHi (f / 16)) = none := by
      unfold Lib.checkN; repeat' split
      all_goals first | rfl | (exfalso; omega)
     rw [hlead, e1]
    exact r_ret1 S rfl rfl ⟨by rw [hV, hbad], H.below⟩
   intro a S
   have c103 := of_decide_eq_false bc103
   revert a;refine pK (pT (pG (pM 1 rfl ?_)));intro a S
   have hVk : up.V s 0 = up.V s (i + 3) := hV.trans (hlead.trans (by unfold Lib.checkN; simp only [show f % 8 = 3 by omega, if_true, if_false, Nat.reduceEqDiff]; rw [if_neg (by omega)]))
   have hsb105 := hq.drop (m := 3) (by omega)
   revert a;refine pP (p_slice rfl (o_some rfl) (fun _ _ => o_none) (fun _ _ => o_none) (fun w => sl_sb_lo (m := 3) Tryz.underlying23 sz5 rfl (by omega))) rfl ?_;intro a S
   rw [List.drop_drop] at S hsb105
   revert S; revert hsb105
   generalize cutAt _ _ 3 1 = Ab105
   generalize _ - 3 = cb105
   intro hsb105 S
   have hln106 : ((ints s).drop (i + 3)).length = s.size - (i + 3) := by rw [List.length_drop, ints_len]
   revert a;refine pM 1 rfl (pL (pI 4 (pI 1 (pT ?_))));intro a S
   exact ⟨⟨(i + 3), _, _⟩, ⟨S.only ⟨rfl, trivial⟩, H.tail, ⟨by omega, hVk, hsb105⟩⟩, (show s.size - (i + 3) < s.size - i from by omega)⟩
  intro a S
  have c75 := ne_of_beq_false bc75
  revert a;refine pS (pG (pP (p_eql rfl rfl) rfl (pM 1 rfl (pL (pT (zc rfl (fun bc108 => ?_) (fun bc108 => ?_)))))))
  ·
   intro a S
   have c108 := eq_of_beq bc108
   revert a;refine pS (pS ?_);intro a S
   refine d_start (id := 26) [] 43 (bA 43 0) H rfl rfl rfl (fun w H => ?_)
   revert a;refine qM [0] rfl (qP 1 rfl (p_len Tryz.underlying23 rfl) rfl (qP 2 rfl (p_lss rfl rfl) rfl (qM [3] rfl ?_)));intro a S
   refine d_split (S.of 146 rfl) (fun bc110 => ?_) (fun bc110 => ?_)
   ·
    have c110 := of_decide_eq_true bc110
    revert a;refine qO 4 rfl bc110 rfl (qO 5 rfl bc110 rfl (qO 6 rfl bc110 rfl (qO 7 rfl bc110 rfl (qO 8 rfl bc110 rfl (qO 9 rfl bc110 rfl (qP 10 rfl (p_pick_t rfl bc110 rfl) rfl (qM [11] rfl (qO 12 rfl rfl rfl (qO 13 rfl rfl rfl (qO 14 rfl rfl rfl (qO 15 rfl rfl rfl (qO 16 rfl rfl rfl (qO 17 rfl rfl rfl (qP 18 rfl (p_pick_t rfl rfl rfl) rfl (qM [19] rfl (qO 20 rfl rfl rfl (qO 21 rfl rfl rfl (qO 22 rfl rfl rfl (qO 23 rfl rfl rfl (qP 24 rfl (p_pick_t rfl rfl rfl) rfl (qM [25] rfl (qO 26 rfl rfl rfl (qO 27 rfl rfl rfl (qO 28 rfl rfl rfl (qO 29 rfl rfl rfl (qP 30 rfl (p_pick_t rfl rfl rfl) rfl (qM [31] rfl (qO 32 rfl rfl rfl (qO 33 rfl rfl rfl (qO 34 rfl rfl rfl (qO 35 rfl rfl rfl (qP 36 rfl (p_pick_t rfl rfl rfl) rfl (qM [37] rfl (qO 38 rfl rfl rfl (qO 39 rfl rfl rfl (qO 40 rfl rfl rfl (qO 41 rfl rfl rfl (qP 42 rfl (p_pick_t rfl rfl rfl) rfl (qD (pT (zt (pS (pG (pM 1 rfl (pL (pT (pZ (pU (pJ (pJ (pU (pJ (pU ?_)))))))))))))))))))))))))))))))))))))))))))))))))))));intro a S
    have hbad : up.V s i = false := by
     have e1 : Lib.checkN (s.size - i) (HHW.bt s ((i + 1 : Nat) : Int)).toNat (HHW.bt s ((i + 2 : Nat) : Int)).toNat (HHW.bt s ((i + 3 : Nat) : Int)).toNat (f % 8) (Lib.accLo (f / 16)) (Lib.accHi (f / 16)) = none := by
      unfold Lib.checkN; repeat' split
      all_goals first | rfl | (exfalso; omega)
     rw [hlead, e1]
    exact r_ret1 S rfl rfl ⟨by rw [hV, hbad], H.below⟩
   have c110 := of_decide_eq_false bc110
   revert a;refine qW 4 rfl (p_move rfl) bc110 rfl (qW 5 rfl (p_indexAddr rfl rfl (fun w => ia_slice Tryz.underlying23 sz5 (by omega) (by omega))) bc110 rfl (qV 6 H rfl (r_byte (l := ((ints s).drop i)) (i := 1) (v := HHW.bt s ((i + 1 : Nat) : Int)) rfl (by omega) ag5 hRo4 rfl (int_at s rfl (by omega))) bc110 rfl (qX 7 fa131_0 rfl rfl rfl bc110 rfl (qF 8 H rfl rfl rfl m0 rfl ag5 bc110 rfl (qW 9 rfl (p_lss rfl rfl) bc110 rfl (qP 10 rfl (p_pick_f rfl bc110 rfl) rfl (qM [11] rfl ?_)))))));intro a S
   refine d_split (S.of 154 rfl) (fun bc120 => ?_) (fun bc120 => ?_)
   ·
    have c120 := of_decide_eq_true bc120
    revert a;refine qO 12 rfl bc120 rfl (qO 13 rfl bc120 rfl (qO 14 rfl bc120 rfl (qO 15 rfl bc120 rfl (qO 16 rfl bc120 rfl (qO 17 rfl bc120 rfl (qP 18 rfl (p_pick_t rfl bc120 rfl) rfl (qM [19] rfl (qO 20 rfl rfl rfl (qO 21 rfl rfl rfl (qO 22 rfl rfl rfl (qO 23 rfl rfl rfl (qP 24 rfl (p_pick_t rfl rfl rfl) rfl (qM [25] rfl (qO 26 rfl rfl rfl (qO 27 rfl rfl rfl (qO 28 rfl rfl rfl (qO 29 rfl rfl rfl (qP 30 rfl (p_pick_t rfl rfl rfl) rfl (qM [31] rfl (qO 32 rfl rfl rfl (qO 33 rfl rfl rfl (qO 34 rfl rfl rfl (qO 35 rfl rfl rfl (qP 36 rfl (p_pick_t rfl rfl rfl) rfl (qM [37] rfl (qO 38 rfl rfl rfl (qO 39 rfl rfl rfl (qO 40 rfl rfl rfl (qO 41 rfl rfl rfl (qP 42 rfl (p_pick_t rfl rfl rfl) rfl (qD (pT (zt (pS (pG (pM 1 rfl (pL (pT (pZ (pU (pJ (pJ (pU (pJ (pU ?_)))))))))))))))))))))))))))))))))))))))))))));intro a S
    have hbad : up.V s i = false := by
     have e1 : Lib.checkN (s.size - i) (HHW.bt s ((i + 1 : Nat) : Int)).toNat (HHW.bt s ((i + 2 : Nat) : Int)).toNat (HHW.bt s ((i + 3 : Nat) : Int)).toNat (f % 8) (Lib.accLo (f / 16)) (Lib.accHi (f / 16)) = none := by
      unfold Lib.checkN; repeat' split
      all_goals first | rfl | (exfalso; omega)
     rw [hlead, e1]
    exact r_ret1 S rfl rfl ⟨by rw [hV, hbad], H.below⟩
   have c120 := of_decide_eq_false bc120
   revert a;refine qX 12 fa131_1 rfl rfl rfl bc120 rfl (qF 13 H rfl rfl rfl m0 rfl ag5 bc120 rfl (qW 14 rfl (p_move rfl) bc120 rfl (qW 15 rfl (p_indexAddr rfl rfl (fun w => ia_slice Tryz.underlying23 sz5 (by omega) (by omega))) bc120 rfl (qV 16 H rfl (r_byte (l := ((ints s).drop i)) (i := 1) (v := HHW.bt s ((i + 1 : Nat) : Int)) rfl (by omega) ag5 hRo4 rfl (int_at s rfl (by omega))) bc120 rfl (qW 17 rfl (p_lss rfl rfl) bc120 rfl (qP 18 rfl (p_pick_f rfl bc120 rfl) rfl (qM [19] rfl ?_)))))));intro a S
   refine d_split (S.of 162 rfl) (fun bc129 => ?_) (fun bc129 => ?_)
   ·
    have c129 := of_decide_eq_true bc129
    revert a;refine qO 20 rfl bc129 rfl (qO 21 rfl bc129 rfl (qO 22 rfl bc129 rfl (qO 23 rfl bc129 rfl (qP 24 rfl (p_pick_t rfl bc129 rfl) rfl (qM [25] rfl (qO 26 rfl rfl rfl (qO 27 rfl rfl rfl (qO 28 rfl rfl rfl (qO 29 rfl rfl rfl (qP 30 rfl (p_pick_t rfl rfl rfl) rfl (qM [31] rfl (qO 32 rfl rfl rfl (qO 33 rfl rfl rfl (qO 34 rfl rfl rfl (qO 35 rfl rfl rfl (qP 36 rfl (p_pick_t rfl rfl rfl) rfl (qM [37] rfl (qO 38 rfl rfl rfl (qO 39 rfl rfl rfl (qO 40 rfl rfl rfl (qO 41 rfl rfl rfl (qP 42 rfl (p_pick_t rfl rfl rfl) rfl (qD (pT (zt (pS (pG (pM 1 rfl (pL (pT (pZ (pU (pJ (pJ (pU (pJ (pU ?_)))))))))))))))))))))))))))))))))))));intro a S
    have hbad : up.V s i = false := by
     have e1 : Lib.checkN (s.size - i) (HHW.bt s ((i + 1 : Nat) : Int)).toNat (HHW.bt s ((i + 2 : Nat) : Int)).toNat (HHW.bt s ((i + 3 : Nat) : Int)).toNat (f % 8) (Lib.accLo (f / 16)) (Lib.accHi (f / 16)) = none := by
      unfold Lib.checkN; repeat' split
      all_goals first | rfl | (exfalso; omega)
     rw [hlead, e1]
    exact r_ret1 S rfl rfl ⟨by rw [hV, hbad], H.below⟩
   have c129 := of_decide_eq_false bc129
   revert a;refine qW 20 rfl (p_move rfl) bc129 rfl (qW 21 rfl (p_indexAddr rfl rfl (fun w => ia_slice Tryz.underlying23 sz5 (by omega) (by omega))) bc129 rfl (qV 22 H rfl (r_byte (l := ((ints s).drop i)) (i := 2) (v := HHW.bt s ((i + 2 : Nat) : Int)) rfl (by omega) ag5 hRo4 rfl (int_at s rfl (by omega))) bc129 rfl (qW 23 rfl (p_lss rfl rfl) bc129 rfl (qP 24 rfl (p_pick_f rfl bc129 rfl) rfl (qM [25] rfl ?_)))));intro a S
   refine d_split (S.of 168 rfl) (fun bc137 => ?_) (fun bc137 => ?_)
   ·
    have c137 := of_decide_eq_true bc137
    revert a;refine qO 26 rfl bc137 rfl (qO 27 rfl bc137 rfl (qO 28 rfl bc137 rfl (qO 29 rfl bc137 rfl (qP 30 rfl (p_pick_t rfl bc137 rfl) rfl (qM [31] rfl (qO 32 rfl rfl rfl (qO 33 rfl rfl rfl (qO 34 rfl rfl rfl (qO 35 rfl rfl rfl (qP 36 rfl (p_pick_t rfl rfl rfl) rfl (qM [37] rfl (qO 38 rfl rfl rfl (qO 39 rfl rfl rfl (qO 40 rfl rfl rfl (qO 41 rfl rfl rfl (qP 42 rfl (p_pick_t rfl rfl rfl) rfl (qD (pT (zt (pS (pG (pM 1 rfl (pL (pT (pZ (pU (pJ (pJ (pU (pJ (pU ?_)))))))))))))))))))))))))))))));intro a S
    have hbad : up.V s i = false := by
     have e1 : Lib.checkN (s.size - i) (HHW.bt s ((i + 1 : Nat) : Int)).toNat (HHW.bt s ((i + 2 : Nat) : Int)).toNat (HHW.bt s ((i + 3 : Nat) : Int)).toNat (f % 8) (Lib.accLo (f / 16)) (Lib.accHi (f / 16)) = none := by
      unfold Lib.checkN; repeat' split
      all_goals first | rfl | (exfalso; omega)
     rw [hlead, e1]
    exact r_ret1 S rfl rfl ⟨by rw [hV, hbad], H.below⟩
   have c137 := of_decide_eq_false bc137
   revert a;refine qW 26 rfl (p_move rfl) bc137 rfl (qW 27 rfl (p_indexAddr rfl rfl (fun w => ia_slice Tryz.underlying23 sz5 (by omega) (by omega))) bc137 rfl (qV 28 H rfl (r_byte (l := ((ints s).drop i)) (i := 2) (v := HHW.bt s ((i + 2 : Nat) : Int)) rfl (by omega) ag5 hRo4 rfl (int_at s rfl (by omega))) bc137 rfl (qW 29 rfl (p_lss rfl rfl) bc137 rfl (qP 30 rfl (p_pick_f rfl bc137 rfl) rfl (qM [31] rfl ?_)))));intro a S
   refine d_split (S.of 174 rfl) (fun bc144 => ?_) (fun bc144 => ?_)
   ·
    have c144 := of_decide_eq_true bc144
    revert a;refine qO 32 rfl bc144 rfl (qO 33 rfl bc144 rfl (qO 34 rfl bc144 rfl (qO 35 rfl bc144 rfl (qP 36 rfl (p_pick_t rfl bc144 rfl) rfl (qM [37] rfl (qO 38 rfl rfl rfl (qO 39 rfl rfl rfl (qO 40 rfl rfl rfl (qO 41 rfl rfl rfl (qP 42 rfl (p_pick_t rfl rfl rfl) rfl (qD (pT (zt (pS (pG (pM 1 rfl (pL (pT (pZ (pU (pJ (pJ (pU (pJ (pU ?_)))))))))))))))))))))))));intro a S
    have hbad : up.V s i = false := by
     have e1 : Lib.checkN (s.size - i) (HHW.bt s ((i + 1 : Nat) : Int)).toNat (HHW.bt s ((i + 2 : Nat) : Int)).toNat (HHW.bt s ((i + 3 : Nat) : Int)).toNat (f % 8) (Lib.accLo (f / 16)) (Lib.accHi (f / 16)) = none := by
      unfold Lib.checkN; repeat' split
      all_goals first | rfl | (exfalso; omega)
     rw [hlead, e1]
    exact r_ret1 S rfl rfl ⟨by rw [hV, hbad], H.below⟩
   have c144 := of_decide_eq_false bc144
   revert a;refine qW 32 rfl (p_move rfl) bc144 rfl (qW 33 rfl (p_indexAddr rfl rfl (fun w => ia_slice Tryz.underlying23 sz5 (by omega) (by omega))) bc144 rfl (qV 34 H rfl (r_byte (l := ((ints s).drop i)) (i := 3) (v := HHW.bt s ((i + 3 : Nat) : Int)) rfl (by omega) ag5 hRo4 rfl (int_at s rfl (by omega))) bc144 rfl (qW 35 rfl (p_lss rfl rfl) bc144 rfl (qP 36 rfl (p_pick_f rfl bc144 rfl) rfl (qM [37] rfl ?_)))));intro a S
   refine d_split (S.of 180 rfl) (fun bc150 => ?_) (fun bc150 => ?_)
   ·
    have c150 := of_decide_eq_true bc150
    revert a;refine qO 38 rfl bc150 rfl (qO 39 rfl bc150 rfl (qO 40 rfl bc150 rfl (qO 41 rfl bc150 rfl (qP 42 rfl (p_pick_t rfl bc150 rfl) rfl (qD (pT (zt (pS (pG (pM 1 rfl (pL (pT (pZ (pU (pJ (pJ (pU (pJ (pU ?_)))))))))))))))))));intro a S
    have hbad : up.V s i = false := by
     have e1 : Lib.checkN (s.size - i) (HHW.bt s ((i + 1 : Nat) : Int)).toNat (HHW.bt s ((i + 2 : Nat) : Int)).toNat (HHW.bt s ((i + 3 : Nat) : Int)).toNat (f % 8) (Lib.accLo (f / 16)) (Lib.accHi (f / 16)) = none := by
      unfold Lib.checkN; repeat' split
      all_goals first | rfl | (exfalso; omega)
     rw [hlead, e1]
    exact r_ret1 S rfl rfl ⟨by rw [hV, hbad], H.below⟩
   have c150 := of_decide_eq_false bc150
   revert a;refine qW 38 rfl (p_move rfl) bc150 rfl (qW 39 rfl (p_indexAddr rfl rfl (fun w => ia_slice Tryz.underlying23 sz5 (by omega) (by omega))) bc150 rfl (qV 40 H rfl (r_byte (l := ((ints s).drop i)) (i := 3) (v := HHW.bt s ((i + 3 : Nat) : Int)) rfl (by omega) ag5 hRo4 rfl (int_at s rfl (by omega))) bc150 rfl (qW 41 rfl (p_lss rfl rfl) bc150 rfl (qP 42 rfl (p_pick_f rfl bc150 rfl) rfl (qD (pT (zc rfl (fun bc155 => ?_) (fun bc155 => ?_))))))))
   ·
    intro a S
    have c155 := of_decide_eq_true bc155
    revert a;refine pS (pG (pM 1 rfl (pL (pT (pZ (pU (pJ (pJ (pU (pJ (pU ?_)))))))))));intro a S
    have hbad : up.V s i = false := by
     have e1 : Lib.checkN (s.size - i) (HHW.bt s ((i + 1 : Nat) : Int)).toNat (HHW.bt s ((i + 2 : Nat) : Int)).toNat (HHW.bt s ((i + 3 : Nat) : Int)).toNat (f % 8) (Lib.accLo (f / 16)) (Lib.accHi (f / 16)) = none := by
      unfold Lib.checkN; repeat' split
      all_goals first | rfl | (exfalso; omega)
     rw [hlead, e1]
    exact r_ret1 S rfl rfl ⟨by rw [hV, hbad], H.below⟩
   intro a S
   have c155 := of_decide_eq_false bc155
   revert a;refine pK (pT (pG (pM 1 rfl ?_)));intro a S
   have hVk : up.V s 0 = up.V s (i + 4) := hV.trans (hlead.trans (by unfold Lib.checkN; simp only [show f % 8 = 4 by omega, if_true, if_false, Nat.reduceEqDiff]; rw [if_neg (by omega)]))
   have hsb157 := hq.drop (m := 4) (by omega)
   revert a;refine pP (p_slice rfl (o_some rfl) (fun _ _ => o_none) (fun _ _ => o_none) (fun w => sl_sb_lo (m := 4) Tryz.underlying23 sz5 rfl (by omega))) rfl ?_;intro a S
   rw [List.drop_drop] at S hsb157
   revert S; revert hsb157
   generalize cutAt _ _ 4 1 = Ab157
   generalize _ - 4 = cb157
   intro hsb157 S
   have hln158 : ((ints s).drop (i + 4)).length = s.size - (i + 4) := by rw [List.length_drop, ints_len]
   revert a;refine pM 1 rfl (pL (pI 4 (pI 1 (pT ?_))));intro a S
   exact ⟨⟨(i + 4), _, _⟩, ⟨S.only ⟨rfl, trivial⟩, H.tail, ⟨by omega, hVk, hsb157⟩⟩, (show s.size - (i + 4) < s.size - i from by omega)⟩
  intro a S
  have c108 := ne_of_beq_false bc108
  revert a;refine pS (pG (pM 1 rfl (pL (pT (pZ (pJ (pJ (pU (pJ (pU ?_))))))))));intro a S
  have hbad : up.V s i = false := by
   have e1 : Lib.checkN (s.size - i) (HHW.bt s ((i + 1 : Nat) : Int)).toNat (HHW.bt s ((i + 2 : Nat) : Int)).toNat (HHW.bt s ((i + 3 : Nat) : Int)).toNat (f % 8) (Lib.accLo (f / 16)) (Lib.accHi (f / 16)) = none := by
    unfold Lib.checkN; repeat' split
    all_goals first | rfl | (exfalso; omega)
   rw [hlead, e1]
  exact r_ret1 S rfl rfl ⟨by rw [hV, hbad], H.below⟩
 intro a S
 have c3 := of_decide_eq_false bc3
 revert a;refine pX (pV (pV (pW (pT (pS (pG (pM 1 rfl (pL (pT (pZ ?_))))))))));intro a S
 exact r_ret1 S rfl rfl ⟨by rw [hV, up.V_end s i (by omega)], H.below⟩
end gv
end Go.Proofs.YtbahngfpadjbhaaGreatDoor.dec
end
