/- Part of the proof that FnDecodeCRLF answers true at every text, in every world that its card's statement admits; no condition beyond those. -/
import Derived.Test.YtbahngfpadjbhaaGreatDoorR20
import Derived.Test.YtbahngfpadjbhaaGreatDoorR05
import Derived.Test.YtbahngfpadjbhaaGreatDoorR04
set_option linter.unusedVariables false
set_option linter.unusedSimpArgs false
section
namespace Go.Proofs.YtbahngfpadjbhaaGreatDoor.dec
open Go.Proofs.YtbahngfpadjbhaaGreatDoor.fx
open Go.RowKit Go.Proofs.HHW Go.Proofs.YtbahngfpadjbhaaGreatDoorW.PrintWords Go.Proofs.YtbahngfpadjbhaaGreatDoor.dt
namespace jd
set_option maxHeartbeats 1000000 in
theorem passed_ (wb w0 : World) (L0 : dc.Bk) (s : ByteArray) (hs : s.size ≤ 100000) (H : HH wb.heap.size wb w0 L0) : Calls Tryz.prog 30 #[.string s] w0 fun e w' => e = .returned (.int .i64 ((skipP (ints s) (s.size + 1) 0 0).1 : Int)) ∧ HH wb.heap.size wb w' L0 := by
 refine c_enter (args := [.string s]) (k := 68) Tryz.func30 rfl rfl rfl ?_
 refine pS (pG (pM 1 rfl (pL (pT (pS (pG (pM 1 rfl (pL (pT (pB ?_))))))))));intro a S
 refine c_loop (σ := Nat × Nat × Nat) (fun s_ a w => match s_ with | ⟨q, ln, f⟩ => SL a 69 [] [(0, .string s), (3, .int .i64 ((q : Nat) : Int))] ∧ HH (wb.heap.size) wb w L0 ∧ (q ≤ s.size ∧ s.size - q < f ∧ (skipP (ints s) (s.size + 1) 0 0).1 = (skipP (ints s) f q ln).1)) (fun s_ => match s_ with | ⟨q, ln, f⟩ => s.size - q) ⟨0, 0, s.size + 1⟩ ⟨S.only ⟨rfl, rfl, trivial⟩, H, ⟨Nat.zero_le _, by omega, rfl⟩⟩ ?_
 clear S a H; rintro ⟨q, ln, f⟩ a w ⟨S, H, hinv⟩
 obtain ⟨hq, hf, hsk⟩ := hinv
 obtain ⟨f, rfl⟩ : ∃ k, f = k + 1 := ⟨f - 1, by omega⟩
 have hil := ints_len s
 have hg0 := run_ge 0 (ints s) q
 have hl0 := run_le (k := 0) (X := (ints s)) (p := q) (by omega)
 have hg1 := run_ge 11 (ints s) (run 0 (ints s) q)
 have hl1 := run_le (k := 11) hl0
 revert a;refine pB (pS (pG (pM 2 rfl (pL (pT (pS (pB ?_)))))));intro a S
 refine c_loop (σ := Nat) (fun s_ a w => match s_ with | j => SL a 69 [] [(0, .string s), (3, .int .i64 ((j : Nat) : Int)), (4, .int .i64 (q : Int))] ∧ HH (wb.heap.size) wb w L0 ∧ (q ≤ j ∧ j ≤ s.size ∧ run 0 (ints s) q = run 0 (ints s) j)) (fun s_ => match s_ with | j => s.size - j) q ⟨S.only ⟨rfl, rfl, rfl, trivial⟩, H, ⟨Nat.le_refl _, by omega, rfl⟩⟩ ?_
 clear S a H; rintro j a w ⟨S, H, hinv⟩
 obtain ⟨hqj, hjs, hrun⟩ := hinv
 revert a;refine pS (pS (pG (pM 2 rfl (pP (p_lens Tryz.underlying9 rfl) rfl (pP (p_lss rfl rfl) rfl (pM 1 rfl ?_))))));intro a S
 refine l_split (S.of 14 rfl) (fun bc2 => ?_) (fun bc2 => ?_)
 ·
  have c2 := of_decide_eq_true bc2
  revert a;refine pN bc2 (pP (p_move rfl) rfl (pN bc2 (pP (p_move rfl) rfl (pN bc2 (pP (p_index rfl rfl (fun w => ix_string Tryz.underlying9 (by omega) (by omega))) rfl ?_)))))
  obtain ⟨b3, hb3, lb3, nb3, gb3⟩ := bt_natI s (((j : Nat) : Int)) (j) (by first | rfl | omega)
  intro a S
  rw [hb3] at S
  revert a;refine pN bc2 (pP (p_eql rfl rfl) rfl (pP (p_pick_t rfl bc2 rfl) rfl (pL (pT (zc rfl (fun bc5 => ?_) (fun bc5 => ?_))))))
  ·
   have c5 := eq_of_beq bc5
   have hin : sIn 0 ((ints s).getD j 0).toNat = true := by rw [nb3, show b3 = 32 by omega]; decide
   refine pK (pT (pB (pG (pM 1 rfl (pP (p_add rfl rfl (nat_add (x := j) (y := 1) (by omega))) rfl (pM 1 rfl (pL (pI 3 (pT ?_)))))))));intro a S
   exact ⟨(j + 1), ⟨S.only ⟨rfl, rfl, rfl, trivial⟩, H, ⟨by omega, by omega, hrun.trans (run_step (by omega) hin)⟩⟩, (show s.size - (j + 1) < s.size - j from by omega)⟩
  have c5 := ne_of_beq_false bc5
  have hend : (run 0 (ints s) q) = j := hrun.trans (run_stop (by omega) (by
   cases hc : sIn 0 ((ints s).getD j 0).toNat with
   | false => rfl
   | true => exact absurd ((sIn0 (at_by (ints_by' s) j).1).1 hc) (by omega)))
  clear hrun; subst hend
  refine pX (pV (pV (pW (pT (pS (pS (pG (pM 2 rfl (pP (p_lens Tryz.underlying9 rfl) rfl (pP (p_eql rfl rfl) rfl (pL (pT (zc rfl (fun bc7 => ?_) (fun bc7 => ?_))))))))))))))
  ·
   have c7 := eq_of_beq bc7
   have hR := skip_z (X := (ints s)) (f := f) (p := q) (line := ln) (by omega)
   refine pS (pG (pM 2 rfl (pL (pT (pZ (pU (pJ (pU (pJ ?_)))))))));intro a S
   rw [hsk, hR]
   exact r_ret1 S rfl rfl ⟨rfl, H⟩
  have c7 := ne_of_beq_false bc7
  refine pK (pT (pS (pS (pG (pM 2 rfl (pP (p_index rfl rfl (fun w => ix_string Tryz.underlying9 (by omega) (by omega))) rfl ?_))))))
  obtain ⟨b8, hb8, lb8, nb8, gb8⟩ := bt_natI s ((((run 0 (ints s) q) : Nat) : Int)) ((run 0 (ints s) q)) (by first | rfl | omega)
  intro a S
  rw [hb8] at S
  revert a;refine pP (p_eql rfl rfl) rfl (pL (pT (zc rfl (fun bc10 => ?_) (fun bc10 => ?_))))
  ·
   have c10 := eq_of_beq bc10
   have h35 : (ints s).getD (run 0 (ints s) q) 0 = 35 := by omega
   have hrc := run_comment h35
   refine pS (pB ?_);intro a S
   refine c_loop (σ := Nat) (fun s_ a w => match s_ with | j => SL a 69 [] [(0, .string s), (3, .int .i64 ((j : Nat) : Int)), (4, .int .i64 (q : Int))] ∧ HH (wb.heap.size) wb w L0 ∧ ((run 0 (ints s) q) ≤ j ∧ j ≤ s.size ∧ run 11 (ints s) (run 0 (ints s) q) = run 11 (ints s) j)) (fun s_ => match s_ with | j => s.size - j) (run 0 (ints s) q) ⟨S.only ⟨rfl, rfl, rfl, trivial⟩, H, ⟨Nat.le_refl _, by omega, rfl⟩⟩ ?_
   clear S a H; rintro j a w ⟨S, H, hinv⟩
   obtain ⟨hqj, hjs, hrun⟩ := hinv
   revert a;refine pS (pS (pG (pM 2 rfl (pP (p_lens Tryz.underlying9 rfl) rfl (pP (p_lss rfl rfl) rfl (pM 1 rfl ?_))))));intro a S
   refine l_split (S.of 35 rfl) (fun bc12 => ?_) (fun bc12 => ?_)
   ·
    have c12 := of_decide_eq_true bc12
    revert a;refine pN bc12 (pP (p_move rfl) rfl (pN bc12 (pP (p_move rfl) rfl (pN bc12 (pP (p_index rfl rfl (fun w => ix_string Tryz.underlying9 (by omega) (by omega))) rfl ?_)))))
    obtain ⟨b13, hb13, lb13, nb13, gb13⟩ := bt_natI s (((j : Nat) : Int)) (j) (by first | rfl | omega)
    intro a S
    rw [hb13] at S
    revert a;refine pN bc12 ?_
    have hcon := dec.ja.in_ wb _ _ (11) b13 (by decide) H
    refine pC Tryz.func66 hcon ?_
    rintro e w ⟨rfl, hH⟩
    refine ⟨_, rfl, ?_⟩
    clear H hcon; have H := hH; clear hH
    refine pP (p_pick_t rfl bc12 rfl) rfl (pL (pT (zc rfl (fun bc15 => ?_) (fun bc15 => ?_))))
    ·
     have c15 := bc15
     have hin : sIn 11 ((ints s).getD j 0).toNat = true := by rw [nb13]; exact bc15
     refine pK (pT (pB (pG (pM 1 rfl (pP (p_add rfl rfl (nat_add (x := j) (y := 1) (by omega))) rfl (pM 1 rfl (pL (pI 5 (pT ?_)))))))));intro a S
     exact ⟨(j + 1), ⟨S.only ⟨rfl, rfl, rfl, trivial⟩, H, ⟨by omega, by omega, hrun.trans (run_step (by omega) hin)⟩⟩, (show s.size - (j + 1) < s.size - j from by omega)⟩
    have c15 := bc15
    have hend : (run 11 (ints s) (run 0 (ints s) q)) = j := hrun.trans (run_stop (by omega) (by rw [nb13]; exact bc15))
    clear hrun; subst hend
    refine pX (pV (pV (pW (pT (pS (pG (pM 2 rfl (pP (p_slice rfl (o_some rfl) (fun _ _ => o_none) (fun _ _ => o_none) (fun w => sl_string_lo Tryz.underlying9 (by omega) (by omega))) rfl ?_))))))));intro a S
    simp only [Int.toNat_natCast] at S
    have hcon := dec.ja.end_ wb _ _ (s.extract ((run 11 (ints s) (run 0 (ints s) q))) (s.size)) (by rw [ByteArray.size_extract]; omega) H
    rw [show ints (s.extract ((run 11 (ints s) (run 0 (ints s) q))) (s.size)) = (ints s).drop ((run 11 (ints s) (run 0 (ints s) q))) by rw [ints_extract, ← ints_len, List.take_length], eol_drop (by omega)] at hcon
    have hel := eol_le (X := ints s) (p := (run 11 (ints s) (run 0 (ints s) q))) (by omega)
    revert a;refine pC Tryz.func67 hcon ?_
    rintro e w ⟨rfl, hH⟩
    refine ⟨_, rfl, ?_⟩
    clear H hcon; have H := hH; clear hH
    refine pM 5 rfl (pL (pT (pS (pS (pG (pM 1 rfl (pP (p_not rfl) rfl (pL (pT (zc rfl (fun bc18 => ?_) (fun bc18 => ?_)))))))))))
    ·
     have c18 := not_eq_true_ bc18
     have hR := skip_cn (X := (ints s)) (f := f) (p := q) (line := ln) h35 (by simpa using bc18)
     refine pS (pG (pM 2 rfl (pL (pT (pZ (pU (pU (pJ (pU (pJ ?_))))))))));intro a S
     rw [hsk, hR]
     exact r_ret1 S rfl rfl ⟨rfl, H⟩
    have c18 := not_eq_false_ bc18
    have hR := skip_c (X := (ints s)) (f := f) (p := q) (line := ln) h35 (by simpa using bc18)
    refine pK (pT (pS (pG (pM 2 rfl (pP (p_add rfl rfl (nat_add (x := (run 11 (ints s) (run 0 (ints s) q))) (y := ((dc.eol (ints s) ((run 11 (ints s) (run 0 (ints s) q)))).2.1)) (by omega))) rfl (pM 1 rfl (pL (pT (pX (pV (pW (pT ?_))))))))))));intro a S
    exact ⟨⟨(((run 11 (ints s) (run 0 (ints s) q)) + ((dc.eol (ints s) ((run 11 (ints s) (run 0 (ints s) q)))).2.1))), _, f⟩, ⟨S.only ⟨rfl, rfl, trivial⟩, H, ⟨by omega, by omega, hsk.trans (by rw [hR])⟩⟩, (by show s.size - _ < s.size - q; omega)⟩
   have c12 := of_decide_eq_false bc12
   have hend : (run 11 (ints s) (run 0 (ints s) q)) = j := hrun.trans (run_end (by omega))
   clear hrun; subst hend
   revert a;refine pO bc12 rfl (pO bc12 rfl (pO bc12 rfl (pO bc12 rfl (pP (p_pick_f rfl bc12 rfl) rfl (pL (pT (zf (pX (pV (pV (pW (pT (pS (pG (pM 2 rfl (pP (p_slice rfl (o_some rfl) (fun _ _ => o_none) (fun _ _ => o_none) (fun w => sl_string_lo Tryz.underlying9 (by omega) (by omega))) rfl ?_))))))))))))))));intro a S
   simp only [Int.toNat_natCast] at S
   have hcon := dec.ja.end_ wb _ _ (s.extract ((run 11 (ints s) (run 0 (ints s) q))) (s.size)) (by rw [ByteArray.size_extract]; omega) H
   rw [show ints (s.extract ((run 11 (ints s) (run 0 (ints s) q))) (s.size)) = (ints s).drop ((run 11 (ints s) (run 0 (ints s) q))) by rw [ints_extract, ← ints_len, List.take_length], eol_drop (by omega)] at hcon
   have hel := eol_le (X := ints s) (p := (run 11 (ints s) (run 0 (ints s) q))) (by omega)
   revert a;refine pC Tryz.func67 hcon ?_
   rintro e w ⟨rfl, hH⟩
   refine ⟨_, rfl, ?_⟩
   clear H hcon; have H := hH; clear hH
   refine pM 5 rfl (pL (pT (pS (pS (pG (pM 1 rfl (pP (p_not rfl) rfl (pL (pT (zc rfl (fun bc23 => ?_) (fun bc23 => ?_)))))))))))
   ·
    have c23 := not_eq_true_ bc23
    have hR := skip_cn (X := (ints s)) (f := f) (p := q) (line := ln) h35 (by simpa using bc23)
    refine pS (pG (pM 2 rfl (pL (pT (pZ (pU (pU (pJ (pU (pJ ?_))))))))));intro a S
    rw [hsk, hR]
    exact r_ret1 S rfl rfl ⟨rfl, H⟩
   have c23 := not_eq_false_ bc23
   have hR := skip_c (X := (ints s)) (f := f) (p := q) (line := ln) h35 (by simpa using bc23)
   refine pK (pT (pS (pG (pM 2 rfl (pP (p_add rfl rfl (nat_add (x := (run 11 (ints s) (run 0 (ints s) q))) (y := ((dc.eol (ints s) ((run 11 (ints s) (run 0 (ints s) q)))).2.1)) (by omega))) rfl (pM 1 rfl (pL (pT (pX (pV (pW (pT ?_))))))))))));intro a S
   exact ⟨⟨(((run 11 (ints s) (run 0 (ints s) q)) + ((dc.eol (ints s) ((run 11 (ints s) (run 0 (ints s) q)))).2.1))), _, f⟩, ⟨S.only ⟨rfl, rfl, trivial⟩, H, ⟨by omega, by omega, hsk.trans (by rw [hR])⟩⟩, (by show s.size - _ < s.size - q; omega)⟩
  have c10 := ne_of_beq_false bc10
  have h35 : (ints s).getD (run 0 (ints s) q) 0 ≠ 35 := by omega
  refine pK (pT (pS (pG (pM 2 rfl (pP (p_slice rfl (o_some rfl) (fun _ _ => o_none) (fun _ _ => o_none) (fun w => sl_string_lo Tryz.underlying9 (by omega) (by omega))) rfl ?_)))));intro a S
  simp only [Int.toNat_natCast] at S
  have hcon := dec.ja.end_ wb _ _ (s.extract ((run 0 (ints s) q)) (s.size)) (by rw [ByteArray.size_extract]; omega) H
  rw [show ints (s.extract ((run 0 (ints s) q)) (s.size)) = (ints s).drop ((run 0 (ints s) q)) by rw [ints_extract, ← ints_len, List.take_length], eol_drop (by omega)] at hcon
  have hel := eol_le (X := ints s) (p := (run 0 (ints s) q)) (by omega)
  revert a;refine pC Tryz.func67 hcon ?_
  rintro e w ⟨rfl, hH⟩
  refine ⟨_, rfl, ?_⟩
  clear H hcon; have H := hH; clear hH
  refine pM 5 rfl (pL (pT (pS (pS (pG (pM 1 rfl (pP (p_not rfl) rfl (pL (pT (zc rfl (fun bc26 => ?_) (fun bc26 => ?_)))))))))))
  ·
   have c26 := not_eq_true_ bc26
   have hR := skip_en (X := (ints s)) (f := f) (p := q) (line := ln) h35 (by omega) (by simpa using bc26)
   refine pS (pG (pM 2 rfl (pL (pT (pZ (pU (pJ (pU (pJ ?_)))))))));intro a S
   rw [hsk, hR]
   exact r_ret1 S rfl rfl ⟨rfl, H⟩
  have c26 := not_eq_false_ bc26
  have hR := skip_e (X := (ints s)) (f := f) (p := q) (line := ln) h35 (by omega) (by simpa using bc26)
  obtain ⟨_, hone⟩ := eol_is (X := (ints s)) (p := (run 0 (ints s) q)) (by omega) (by simpa using bc26)
  refine pK (pT (pG (pM 2 rfl (pP (p_add rfl rfl (nat_add (x := (run 0 (ints s) q)) (y := ((dc.eol (ints s) ((run 0 (ints s) q))).2.1)) (by omega))) rfl (pM 1 rfl (pL (pI 1 (pT ?_))))))));intro a S
  exact ⟨⟨(((run 0 (ints s) q) + ((dc.eol (ints s) ((run 0 (ints s) q))).2.1))), _, f⟩, ⟨S.only ⟨rfl, rfl, trivial⟩, H, ⟨by omega, by omega, hsk.trans (by rw [hR])⟩⟩, (by show s.size - _ < s.size - q; omega)⟩
 have c2 := of_decide_eq_false bc2
 have hend : (run 0 (ints s) q) = j := hrun.trans (run_end (by omega))
 clear hrun; subst hend
 revert a;refine pO bc2 rfl (pO bc2 rfl (pO bc2 rfl (pO bc2 rfl (pP (p_pick_f rfl bc2 rfl) rfl (pL (pT (zf (pX (pV (pV (pW (pT (pS (pS (pG (pM 2 rfl (pP (p_lens Tryz.underlying9 rfl) rfl (pP (p_eql rfl rfl) rfl (pL (pT (zc rfl (fun bc30 => ?_) (fun bc30 => ?_))))))))))))))))))))))
 ·
  have c30 := eq_of_beq bc30
  have hR := skip_z (X := (ints s)) (f := f) (p := q) (line := ln) (by omega)
  refine pS (pG (pM 2 rfl (pL (pT (pZ (pU (pJ (pU (pJ ?_)))))))));intro a S
  rw [hsk, hR]
  exact r_ret1 S rfl rfl ⟨rfl, H⟩
 have c30 := ne_of_beq_false bc30
 refine pK (pT (pS (pS (pG (pM 2 rfl (pP (p_index rfl rfl (fun w => ix_string Tryz.underlying9 (by omega) (by omega))) rfl ?_))))))
 obtain ⟨b31, hb31, lb31, nb31, gb31⟩ := bt_natI s ((((run 0 (ints s) q) : Nat) : Int)) ((run 0 (ints s) q)) (by first | rfl | omega)
 intro a S
 rw [hb31] at S
 revert a;refine pP (p_eql rfl rfl) rfl (pL (pT (zc rfl (fun bc33 => ?_) (fun bc33 => ?_))))
 ·
  have c33 := eq_of_beq bc33
  have h35 : (ints s).getD (run 0 (ints s) q) 0 = 35 := by omega
  have hrc := run_comment h35
  refine pS (pB ?_);intro a S
  refine c_loop (σ := Nat) (fun s_ a w => match s_ with | j => SL a 69 [] [(0, .string s), (3, .int .i64 ((j : Nat) : Int)), (4, .int .i64 (q : Int))] ∧ HH (wb.heap.size) wb w L0 ∧ ((run 0 (ints s) q) ≤ j ∧ j ≤ s.size ∧ run 11 (ints s) (run 0 (ints s) q) = run 11 (ints s) j)) (fun s_ => match s_ with | j => s.size - j) (run 0 (ints s) q) ⟨S.only ⟨rfl, rfl, rfl, trivial⟩, H, ⟨Nat.le_refl _, by omega, rfl⟩⟩ ?_
  clear S a H; rintro j a w ⟨S, H, hinv⟩
  obtain ⟨hqj, hjs, hrun⟩ := hinv
  revert a;refine pS (pS (pG (pM 2 rfl (pP (p_lens Tryz.underlying9 rfl) rfl (pP (p_lss rfl rfl) rfl (pM 1 rfl ?_))))));intro a S
  refine l_split (S.of 35 rfl) (fun bc35 => ?_) (fun bc35 => ?_)
  ·
   have c35 := of_decide_eq_true bc35
   revert a;refine pN bc35 (pP (p_move rfl) rfl (pN bc35 (pP (p_move rfl) rfl (pN bc35 (pP (p_index rfl rfl (fun w => ix_string Tryz.underlying9 (by omega) (by omega))) rfl ?_)))))
   obtain ⟨b36, hb36, lb36, nb36, gb36⟩ := bt_natI s (((j : Nat) : Int)) (j) (by first | rfl | omega)
   intro a S
   rw [hb36] at S
   revert a;refine pN bc35 ?_
   have hcon := dec.ja.in_ wb _ _ (11) b36 (by decide) H
   refine pC Tryz.func66 hcon ?_
   rintro e w ⟨rfl, hH⟩
   refine ⟨_, rfl, ?_⟩
   clear H hcon; have H := hH; clear hH
   refine pP (p_pick_t rfl bc35 rfl) rfl (pL (pT (zc rfl (fun bc38 => ?_) (fun bc38 => ?_))))
   ·
    have c38 := bc38
    have hin : sIn 11 ((ints s).getD j 0).toNat = true := by rw [nb36]; exact bc38
    refine pK (pT (pB (pG (pM 1 rfl (pP (p_add rfl rfl (nat_add (x := j) (y := 1) (by omega))) rfl (pM 1 rfl (pL (pI 5 (pT ?_)))))))));intro a S
    exact ⟨(j + 1), ⟨S.only ⟨rfl, rfl, rfl, trivial⟩, H, ⟨by omega, by omega, hrun.trans (run_step (by omega) hin)⟩⟩, (show s.size - (j + 1) < s.size - j from by omega)⟩
   have c38 := bc38
   have hend : (run 11 (ints s) (run 0 (ints s) q)) = j := hrun.trans (run_stop (by omega) (by rw [nb36]; exact bc38))
   clear hrun; subst hend
   refine pX (pV (pV (pW (pT (pS (pG (pM 2 rfl (pP (p_slice rfl (o_some rfl) (fun _ _ => o_none) (fun _ _ => o_none) (fun w => sl_string_lo Tryz.underlying9 (by omega) (by omega))) rfl ?_))))))));intro a S
   simp only [Int.toNat_natCast] at S
   have hcon := dec.ja.end_ wb _ _ (s.extract ((run 11 (ints s) (run 0 (ints s) q))) (s.size)) (by rw [ByteArray.size_extract]; omega) H
   rw [show ints (s.extract ((run 11 (ints s) (run 0 (ints s) q))) (s.size)) = (ints s).drop ((run 11 (ints s) (run 0 (ints s) q))) by rw [ints_extract, ← ints_len, List.take_length], eol_drop (by omega)] at hcon
   have hel := eol_le (X := ints s) (p := (run 11 (ints s) (run 0 (ints s) q))) (by omega)
   revert a;refine pC Tryz.func67 hcon ?_
   rintro e w ⟨rfl, hH⟩
   refine ⟨_, rfl, ?_⟩
   clear H hcon; have H := hH; clear hH
   refine pM 5 rfl (pL (pT (pS (pS (pG (pM 1 rfl (pP (p_not rfl) rfl (pL (pT (zc rfl (fun bc41 => ?_) (fun bc41 => ?_)))))))))))
   ·
    have c41 := not_eq_true_ bc41
    have hR := skip_cn (X := (ints s)) (f := f) (p := q) (line := ln) h35 (by simpa using bc41)
    refine pS (pG (pM 2 rfl (pL (pT (pZ (pU (pU (pJ (pU (pJ ?_))))))))));intro a S
    rw [hsk, hR]
    exact r_ret1 S rfl rfl ⟨rfl, H⟩
   have c41 := not_eq_false_ bc41
   have hR := skip_c (X := (ints s)) (f := f) (p := q) (line := ln) h35 (by simpa using bc41)
   refine pK (pT (pS (pG (pM 2 rfl (pP (p_add rfl rfl (nat_add (x := (run 11 (ints s) (run 0 (ints s) q))) (y := ((dc.eol (ints s) ((run 11 (ints s) (run 0 (ints s) q)))).2.1)) (by omega))) rfl (pM 1 rfl (pL (pT (pX (pV (pW (pT ?_))))))))))));intro a S
   exact ⟨⟨(((run 11 (ints s) (run 0 (ints s) q)) + ((dc.eol (ints s) ((run 11 (ints s) (run 0 (ints s) q)))).2.1))), _, f⟩, ⟨S.only ⟨rfl, rfl, trivial⟩, H, ⟨by omega, by omega, hsk.trans (by rw [hR])⟩⟩, (by show s.size - _ < s.size - q; omega)⟩
  have c35 := of_decide_eq_false bc35
  have hend : (run 11 (ints s) (run 0 (ints s) q)) = j := hrun.trans (run_end (by omega))
  clear hrun; subst hend
  revert a;refine pO bc35 rfl (pO bc35 rfl (pO bc35 rfl (pO bc35 rfl (pP (p_pick_f rfl bc35 rfl) rfl (pL (pT (zf (pX (pV (pV (pW (pT (pS (pG (pM 2 rfl (pP (p_slice rfl (o_some rfl) (fun _ _ => o_none) (fun _ _ => o_none) (fun w => sl_string_lo Tryz.underlying9 (by omega) (by omega))) rfl ?_))))))))))))))));intro a S
  simp only [Int.toNat_natCast] at S
  have hcon := dec.ja.end_ wb _ _ (s.extract ((run 11 (ints s) (run 0 (ints s) q))) (s.size)) (by rw [ByteArray.size_extract]; omega) H
  rw [show ints (s.extract ((run 11 (ints s) (run 0 (ints s) q))) (s.size)) = (ints s).drop ((run 11 (ints s) (run 0 (ints s) q))) by rw [ints_extract, ← ints_len, List.take_length], eol_drop (by omega)] at hcon
  have hel := eol_le (X := ints s) (p := (run 11 (ints s) (run 0 (ints s) q))) (by omega)
  revert a;refine pC Tryz.func67 hcon ?_
  rintro e w ⟨rfl, hH⟩
  refine ⟨_, rfl, ?_⟩
  clear H hcon; have H := hH; clear hH
  refine pM 5 rfl (pL (pT (pS (pS (pG (pM 1 rfl (pP (p_not rfl) rfl (pL (pT (zc rfl (fun bc46 => ?_) (fun bc46 => ?_)))))))))))
  ·
   have c46 := not_eq_true_ bc46
   have hR := skip_cn (X := (ints s)) (f := f) (p := q) (line := ln) h35 (by simpa using bc46)
   refine pS (pG (pM 2 rfl (pL (pT (pZ (pU (pU (pJ (pU (pJ ?_))))))))));intro a S
   rw [hsk, hR]
   exact r_ret1 S rfl rfl ⟨rfl, H⟩
  have c46 := not_eq_false_ bc46
  have hR := skip_c (X := (ints s)) (f := f) (p := q) (line := ln) h35 (by simpa using bc46)
  refine pK (pT (pS (pG (pM 2 rfl (pP (p_add rfl rfl (nat_add (x := (run 11 (ints s) (run 0 (ints s) q))) (y := ((dc.eol (ints s) ((run 11 (ints s) (run 0 (ints s) q)))).2.1)) (by omega))) rfl (pM 1 rfl (pL (pT (pX (pV (pW (pT ?_))))))))))));intro a S
  exact ⟨⟨(((run 11 (ints s) (run 0 (ints s) q)) + ((dc.eol (ints s) ((run 11 (ints s) (run 0 (ints s) q)))).2.1))), _, f⟩, ⟨S.only ⟨rfl, rfl, trivial⟩, H, ⟨by omega, by omega, hsk.trans (by rw [hR])⟩⟩, (by show s.size - _ < s.size - q; omega)⟩
 have c33 := ne_of_beq_false bc33
 have h35 : (ints s).getD (run 0 (ints s) q) 0 ≠ 35 := by omega
 refine pK (pT (pS (pG (pM 2 rfl (pP (p_slice rfl (o_some rfl) (fun _ _ => o_none) (fun _ _ => o_none) (fun w => sl_string_lo Tryz.underlying9 (by omega) (by omega))) rfl ?_)))));intro a S
 simp only [Int.toNat_natCast] at S
 have hcon := dec.ja.end_ wb _ _ (s.extract ((run 0 (ints s) q)) (s.size)) (by rw [ByteArray.size_extract]; omega) H
 rw [show ints (s.extract ((run 0 (ints s) q)) (s.size)) = (ints s).drop ((run 0 (ints s) q)) by rw [ints_extract, ← ints_len, List.take_length], eol_drop (by omega)] at hcon
 have hel := eol_le (X := ints s) (p := (run 0 (ints s) q)) (by omega)
 revert a;refine pC Tryz.func67 hcon ?_
 rintro e w ⟨rfl, hH⟩
 refine ⟨_, rfl, ?_⟩
 clear H hcon; have H := hH; clear hH
 refine pM 5 rfl (pL (pT (pS (pS (pG (pM 1 rfl (pP (p_not rfl) rfl (pL (pT (zc rfl (fun bc49 => ?_) (fun bc49 => ?_)))))))))))
 ·
  have c49 := not_eq_true_ bc49
  have hR := skip_en (X := (ints s)) (f := f) (p := q) (line := ln) h35 (by omega) (by simpa using bc49)
  refine pS (pG (pM 2 rfl (pL (pT (pZ (pU (pJ (pU (pJ ?_)))))))));intro a S
  rw [hsk, hR]
  exact r_ret1 S rfl rfl ⟨rfl, H⟩
 have c49 := not_eq_false_ bc49
 have hR := skip_e (X := (ints s)) (f := f) (p := q) (line := ln) h35 (by omega) (by simpa using bc49)
 obtain ⟨_, hone⟩ := eol_is (X := (ints s)) (p := (run 0 (ints s) q)) (by omega) (by simpa using bc49)
 refine pK (pT (pG (pM 2 rfl (pP (p_add rfl rfl (nat_add (x := (run 0 (ints s) q)) (y := ((dc.eol (ints s) ((run 0 (ints s) q))).2.1)) (by omega))) rfl (pM 1 rfl (pL (pI 1 (pT ?_))))))));intro a S
 exact ⟨⟨(((run 0 (ints s) q) + ((dc.eol (ints s) ((run 0 (ints s) q))).2.1))), _, f⟩, ⟨S.only ⟨rfl, rfl, trivial⟩, H, ⟨by omega, by omega, hsk.trans (by rw [hR])⟩⟩, (by show s.size - _ < s.size - q; omega)⟩
theorem next5 (wb w0 : World) (g : Nat) (s : ByteArray) (q : Nat) (fr : Nat) (L0 : dc.Bk) (hs : s.size ≤ 100000) (hq : q ≤ s.size) (hfr : fr ≤ 100000) (H : HH wb.heap.size wb w0 ((g, Obj.cells #[.string s, .int .i64 ((q : Nat) : Int), .int .i64 5, .int .i64 ((fr : Nat) : Int)] 73 (0, 0)) :: L0)) : Calls Tryz.prog 15 #[.pointer (some ⟨g, 0, none⟩)] w0 fun e w' => e = .returned (.bool (decide ((skipA (ints s) (nextA (ints s) q 5)) < s.size))) ∧ HH wb.heap.size wb w' ((g, Obj.cells #[.string s, .int .i64 (((skipA (ints s) (nextA (ints s) q 5)) : Nat) : Int), .int .i64 0, .int .i64 (((skipA (ints s) (nextA (ints s) q 5)) : Nat) : Int)] 73 (0, 0)) :: L0) := by
 refine c_enter (args := [.pointer (some ⟨g, 0, none⟩)]) (k := 60) Tryz.func15 rfl rfl rfl ?_
 refine pS (pG (pM 1 rfl (pL (pT (pS (pS (pG (pM 2 rfl (pA fa73_2 rfl rfl rfl (pD H rfl rfl m0 rfl ag3 rfl (pP (p_neq rfl rfl) rfl (pL (pT (zf (pK (pT (pS ?_)))))))))))))))));intro a S
 refine d_start (id := 6) [17] 18 (bA 18 0) H rfl rfl rfl (fun w H => ?_)
 revert a;refine qM [0,1,4,5,8,9] rfl (qA 2 fa73_1 rfl rfl rfl rfl (qE 3 H rfl rfl rfl m0 rfl ag3 rfl (qA 6 fa73_0 rfl rfl rfl rfl (qE 7 H rfl rfl rfl m0 rfl ag9 rfl (qA 10 fa73_1 rfl rfl rfl rfl (qE 11 H rfl rfl rfl m0 rfl ag3 rfl (qP 12 rfl (p_slice rfl (o_some rfl) (fun _ _ => o_none) (fun _ _ => o_none) (fun w => sl_string_lo Tryz.underlying9 (by omega) (by omega))) rfl ?_)))))));intro a S
 simp only [Int.toNat_natCast] at S
 have hil := ints_len s
 have hcon := passed_ wb _ _ (s.extract (q) (s.size)) (by rw [ByteArray.size_extract]; omega) H
 rw [show ints (s.extract (q) (s.size)) = (ints s).drop (q) by rw [ints_extract, ← ints_len, List.take_length]] at hcon
 rw [show (s.extract (q) (s.size)).size = ((ints s).drop (q)).length by rw [ByteArray.size_extract, List.length_drop]; omega] at hcon
 have hfar := skip_far (X := (ints s).drop (q)) (((ints s).drop (q)).length + 1) 0 0 (Nat.zero_le _)
 rw [List.length_drop] at hfar
 refine d_call (i := 13) (bA 18 16383) S rfl rfl rfl Tryz.func30 rfl rfl hcon (wanted_none rfl) rfl rfl (by kernel_rfl) rfl ?_
 rintro e w ⟨rfl, hH⟩
 refine ⟨_, rfl, hH, ?_⟩;clear S a
 clear H hcon; have H := hH; clear hH
 have hsa : skipA (ints s) (q) ≤ s.size := by unfold skipA; rw [List.length_drop]; omega
 refine qP 14 rfl (p_add (r := (((skipA (ints s) (q)) : Nat) : Int)) rfl rfl ((IntWalk.i64_in _ (by rw [List.length_drop]; omega)).trans (by unfold skipA; omega))) rfl (qM [15] rfl (qA 16 fa73_1 rfl rfl rfl rfl ?_));intro a S
 refine d_store (i := 17) (bA 18 262143) S H rfl rfl rfl rfl .here (by first | decide | simp [Value.cells]) (fun w u hc hz => st1 sz3 rfl hc hz) (wanted_none rfl) rfl (by kernel_rfl) rfl ?_; clear S a H; intro w a H S
 revert a;refine qD (pT (pS (pG (pM 4 rfl (pA fa73_1 rfl rfl rfl (pD H rfl rfl m0 rfl ag3 rfl (pM 1 rfl (pA fa73_2 rfl rfl rfl (pE H rfl rfl rfl .here (by first | decide | simp [Value.cells]) sz3 ?_)))))))));clear H;intro w H
 refine pM 1 rfl (pA fa73_3 rfl rfl rfl (pE H rfl rfl rfl .here (by first | decide | simp [Value.cells]) sz3 ?_));clear H;intro w H
 refine pL (pT (pS (pG (pM 1 rfl ?_))))
 have hcon := dec.jb.done_ _ _ _ _ _ _ _ _ hs H
 refine pC Tryz.func31 hcon ?_
 rintro e w ⟨rfl, hH⟩
 refine ⟨_, rfl, ?_⟩
 clear H hcon; have H := hH; clear hH
 refine pP (p_not rfl) rfl (pM 1 rfl (pL (pT (pZ ?_))))
 have hN : nextA (ints s) q 5 = q := if_pos rfl
 intro a S
 rw [hN]
 refine r_ret1 S rfl rfl ⟨?_, H⟩
 congr 2; rw [Bool.eq_iff_iff]; simp
theorem next4 (wb w0 : World) (g : Nat) (s : ByteArray) (q : Nat) (fr : Nat) (L0 : dc.Bk) (hs : s.size ≤ 100000) (hq : q ≤ s.size) (hfr : fr ≤ 100000) (H : HH wb.heap.size wb w0 ((g, Obj.cells #[.string s, .int .i64 ((q : Nat) : Int), .int .i64 4, .int .i64 ((fr : Nat) : Int)] 73 (0, 0)) :: L0)) : Calls Tryz.prog 15 #[.pointer (some ⟨g, 0, none⟩)] w0 fun e w' => e = .returned (.bool (decide ((skipA (ints s) (nextA (ints s) q 4)) < s.size))) ∧ HH wb.heap.size wb w' ((g, Obj.cells #[.string s, .int .i64 (((skipA (ints s) (nextA (ints s) q 4)) : Nat) : Int), .int .i64 0, .int .i64 (((skipA (ints s) (nextA (ints s) q 4)) : Nat) : Int)] 73 (0, 0)) :: L0) := by
 refine c_enter (args := [.pointer (some ⟨g, 0, none⟩)]) (k := 60) Tryz.func15 rfl rfl rfl ?_
 refine pS (pG (pM 1 rfl (pL (pT (pS (pS (pG (pM 2 rfl (pA fa73_2 rfl rfl rfl (pD H rfl rfl m0 rfl ag3 rfl (pP (p_neq rfl rfl) rfl (pL (pT (zt (pS (pG (pM 1 rfl ?_)))))))))))))))))
 have hcon := dec.jc.skip_ _ _ _ _ _ _ _ _ hs (5) (by first | omega | decide) H
 refine pC Tryz.func28 hcon ?_
 rintro e w ⟨rfl, hH⟩
 refine ⟨_, rfl, ?_⟩
 clear H hcon; have H := hH; clear hH
 refine pL (pT (pS (pG (pM 2 rfl (pA fa73_2 rfl rfl rfl (pD H rfl rfl m0 rfl ag3 rfl (pP (p_eql rfl rfl) rfl (pL (pT (zt (pS (pG (pM 1 rfl ?_)))))))))))))
 have hcon := dec.jb.run_ _ _ _ _ _ _ _ _ hs 13 (by decide) (by omega) H
 refine pC Tryz.func29 hcon ?_
 rintro e w ⟨m6, rfl, hm6, hH⟩
 refine ⟨_, rfl, ?_⟩
 clear H hcon; have H := hH; clear hH
 have gm6 := run_ge 13 (ints s) q
 have lm6 := run_le (k := 13) (X := ints s) (p := q) (by rw [ints_len]; omega)
 have hsl := ints_len s
 refine pL (pT ?_);intro a S
 refine d_start (id := 5) [14] 15 (bA 15 0) H rfl rfl rfl (fun w H => ?_)
 revert a;refine qM [0,1,2,6,7] rfl (qA 3 fa73_1 rfl rfl rfl rfl (qE 4 H rfl rfl rfl m0 rfl ag3 rfl (qP 5 rfl (p_add rfl rfl (nat_add (x := (run 13 (ints s) q)) (y := 1) (by omega))) rfl (qA 8 fa73_0 rfl rfl rfl rfl (qE 9 H rfl rfl rfl m0 rfl ag9 rfl (qP 10 rfl (p_lens Tryz.underlying9 rfl) rfl (qP 11 rfl (p_minN (x := ((run 13 (ints s) q) + 1)) (y := s.size) rfl rfl) rfl (qM [12] rfl (qA 13 fa73_1 rfl rfl rfl rfl ?_)))))))));intro a S
 refine d_store (i := 14) (bA 15 32767) S H rfl rfl rfl rfl .here (by first | decide | simp [Value.cells]) (fun w u hc hz => st1 sz3 rfl hc hz) (wanted_none rfl) rfl (by kernel_rfl) rfl ?_; clear S a H; intro w a H S
 revert a;refine qD (pT (pS ?_));intro a S
 refine d_start (id := 6) [17] 18 (bA 18 0) H rfl rfl rfl (fun w H => ?_)
 revert a;refine qM [0,1,4,5,8,9] rfl (qA 2 fa73_1 rfl rfl rfl rfl (qE 3 H rfl rfl rfl m0 rfl ag3 rfl (qA 6 fa73_0 rfl rfl rfl rfl (qE 7 H rfl rfl rfl m0 rfl ag9 rfl (qA 10 fa73_1 rfl rfl rfl rfl (qE 11 H rfl rfl rfl m0 rfl ag3 rfl (qP 12 rfl (p_slice rfl (o_some rfl) (fun _ _ => o_none) (fun _ _ => o_none) (fun w => sl_string_lo Tryz.underlying9 (by omega) (by omega))) rfl ?_)))))));intro a S
 simp only [Int.toNat_natCast] at S
 have hil := ints_len s
 have hcon := passed_ wb _ _ (s.extract ((min ((run 13 (ints s) q) + 1) s.size)) (s.size)) (by rw [ByteArray.size_extract]; omega) H
 rw [show ints (s.extract ((min ((run 13 (ints s) q) + 1) s.size)) (s.size)) = (ints s).drop ((min ((run 13 (ints s) q) + 1) s.size)) by rw [ints_extract, ← ints_len, List.take_length]] at hcon
 rw [show (s.extract ((min ((run 13 (ints s) q) + 1) s.size)) (s.size)).size = ((ints s).drop ((min ((run 13 (ints s) q) + 1) s.size))).length by rw [ByteArray.size_extract, List.length_drop]; omega] at hcon
 have hfar := skip_far (X := (ints s).drop ((min ((run 13 (ints s) q) + 1) s.size))) (((ints s).drop ((min ((run 13 (ints s) q) + 1) s.size))).length + 1) 0 0 (Nat.zero_le _)
 rw [List.length_drop] at hfar
 refine d_call (i := 13) (bA 18 16383) S rfl rfl rfl Tryz.func30 rfl rfl hcon (wanted_none rfl) rfl rfl (by kernel_rfl) rfl ?_
 rintro e w ⟨rfl, hH⟩
 refine ⟨_, rfl, hH, ?_⟩;clear S a
 clear H hcon; have H := hH; clear hH
 have hsa : skipA (ints s) ((min ((run 13 (ints s) q) + 1) s.size)) ≤ s.size := by unfold skipA; rw [List.length_drop]; omega
 refine qP 14 rfl (p_add (r := (((skipA (ints s) ((min ((run 13 (ints s) q) + 1) s.size))) : Nat) : Int)) rfl rfl ((IntWalk.i64_in _ (by rw [List.length_drop]; omega)).trans (by unfold skipA; omega))) rfl (qM [15] rfl (qA 16 fa73_1 rfl rfl rfl rfl ?_));intro a S
 refine d_store (i := 17) (bA 18 262143) S H rfl rfl rfl rfl .here (by first | decide | simp [Value.cells]) (fun w u hc hz => st1 sz3 rfl hc hz) (wanted_none rfl) rfl (by kernel_rfl) rfl ?_; clear S a H; intro w a H S
 revert a;refine qD (pT (pS (pG (pM 4 rfl (pA fa73_1 rfl rfl rfl (pD H rfl rfl m0 rfl ag3 rfl (pM 1 rfl (pA fa73_2 rfl rfl rfl (pE H rfl rfl rfl .here (by first | decide | simp [Value.cells]) sz3 ?_)))))))));clear H;intro w H
 refine pM 1 rfl (pA fa73_3 rfl rfl rfl (pE H rfl rfl rfl .here (by first | decide | simp [Value.cells]) sz3 ?_));clear H;intro w H
 refine pL (pT (pS (pG (pM 1 rfl ?_))))
 have hcon := dec.jb.done_ _ _ _ _ _ _ _ _ hs H
 refine pC Tryz.func31 hcon ?_
 rintro e w ⟨rfl, hH⟩
 refine ⟨_, rfl, ?_⟩
 clear H hcon; have H := hH; clear hH
 refine pP (p_not rfl) rfl (pM 1 rfl (pL (pT (pZ ?_))))
 have hN : nextA (ints s) q 4 = min (run 13 (ints s) q + 1) s.size := by rw [← ints_len]; exact if_neg (by decide)
 intro a S
 rw [hN]
 refine r_ret1 S rfl rfl ⟨?_, H⟩
 congr 2; rw [Bool.eq_iff_iff]; simp
end jd
end Go.Proofs.YtbahngfpadjbhaaGreatDoor.dec
end
