/- Part of the proof that FnDecodeCRLF answers true at every text, in every world that its card's statement admits; no condition beyond those. -/
import Derived.Test.YtbahngfpadjbhaaGreatDoorR10
import Derived.Test.YtbahngfpadjbhaaGreatDoorR05
import Derived.Test.YtbahngfpadjbhaaGreatDoorR04
set_option linter.unusedVariables false
set_option linter.unusedSimpArgs false
section
namespace Go.Proofs.YtbahngfpadjbhaaGreatDoor.dec
open Go.Proofs.YtbahngfpadjbhaaGreatDoor.fx
open Go.RowKit Go.Proofs.HHW Go.Proofs.YtbahngfpadjbhaaGreatDoorW.PrintWords Go.Proofs.YtbahngfpadjbhaaGreatDoor.dt
namespace hd
set_option maxHeartbeats 1000000 in
theorem resS (wb w0 : World) (g : Nat) (X : List Int) (p V : Nat) (sec : Int) (sk : Bool) (line : Nat) (eb : Value) (K : Nat) (D E L : dc.Bk) (hst : ST TY 5 wb w0 g X p V sec sk line eb K D E L) (hpV : p ≤ V) : Calls Tryz.prog 44 #[.pointer (some ⟨g, 0, none⟩)] w0 fun e w' => ∃ (eb' : Value) (D' E' : dc.Bk), e = .returned (.tuple #[]) ∧ ST TY 5 wb w' g (X.drop p) 0 (V - p) sec sk line eb' 0 D' E' L := by
 obtain ⟨v, cm, M, hD, hV, ⟨A2, ys, ce, rfl, hOw, hys⟩, H⟩ := hst
 obtain ⟨rd, A, l, c, r0, mb, mr, rfl, hbuf, hrd, hr0, hvX, hdr, hsz, hpX⟩ := hD
 replace H := dc.open_.1 H
 have hlc := hbuf.1
 refine c_enter (args := [.pointer (some ⟨g, 0, none⟩)]) (k := 75) Tryz.func44 rfl rfl rfl ?_
 refine pS (pS ?_);intro a S
 refine d_start (id := 0) [] 11 (bA 11 0) H rfl rfl rfl (fun w H => ?_)
 revert a;refine qM [0,1,5,6] rfl (qA 2 fa58_1 rfl rfl rfl rfl (qE 3 H rfl rfl rfl m0 rfl ag23 rfl (qP 4 rfl (p_len Tryz.underlying23 rfl) rfl (qA 7 fa58_3 rfl rfl rfl rfl (qE 8 H rfl rfl rfl m0 rfl ag3 rfl (qP 9 rfl (p_sub rfl rfl (nat_sub (x := l.length) (y := (r0 + p)) (by omega) (by omega))) rfl (qM [10] rfl (qD (pT (pS (pG (pM 1 rfl (pP (p_eql rfl rfl) rfl (pL (pT (zc rfl (fun bc2 => ?_) (fun bc2 => ?_)))))))))))))))))
 ·
  have c2 := eq_of_beq bc2
  refine pS (pG (pM 3 rfl (pA fa58_1 rfl rfl rfl (pD H rfl rfl m0 rfl ag23 rfl (pP (p_slice rfl (fun _ _ => o_none) (o_some rfl) (fun _ _ => o_none) (fun w => sl_slice_hi Tryz.underlying23 sz5 (by omega) (by omega))) rfl (pM 1 rfl (pA fa58_1 rfl rfl rfl (pE H rfl rfl rfl .here (by first | decide | simp [Value.cells]) sz23 ?_))))))));clear H;intro w H
  refine pL (pT (pG (pM 2 rfl (pA fa58_3 rfl rfl rfl (pE H rfl rfl rfl .here (by first | decide | simp [Value.cells]) sz3 ?_)))));clear H;intro w H
  refine pL (pT (pS (pG (pM 3 rfl (pA fa58_3 rfl rfl rfl (pD H rfl rfl m0 rfl ag3 rfl (pM 1 rfl (pA fa58_2 rfl rfl rfl (pE H rfl rfl rfl .here (by first | decide | simp [Value.cells]) sz3 ?_)))))))));clear H;intro w H
  refine pL (pT (pG (pM 3 rfl (pA fa58_7 rfl rfl rfl (pD H rfl rfl m0 rfl ag23 rfl (pP (p_slice rfl (fun _ _ => o_none) (o_some rfl) (fun _ _ => o_none) (fun w => sl_slice_hi Tryz.underlying23 sz5 (by omega) (by omega))) rfl (pM 1 rfl (pA fa58_7 rfl rfl rfl (pE H rfl rfl rfl .here (by first | decide | simp [Value.cells]) sz23 ?_)))))))));clear H;intro w H
  refine pL ?_;intro a S
  exact r_end0 S rfl ⟨_, _, E, rfl, ⟨0, _, M, ⟨rd, A, [], c, 0, mb, mr, rfl, buf_zero hbuf, by rw [List.drop_zero, show p = v by omega]; exact hrd, rfl, Nat.zero_le _, rfl, (by rw [List.length_drop]; omega), Nat.zero_le _⟩, by omega, ⟨A2, [], ce, rfl, ownB_zero hOw, Nat.zero_le _⟩, dc.open_.2 H⟩⟩
 have c2 := ne_of_beq_false bc2
 refine pS (pG (pM 2 rfl (pA fa58_4 rfl rfl rfl (pD H rfl rfl m0 rfl ag4 rfl (pP (p_not rfl) rfl (pM 1 rfl ?_))))));intro a S
 refine l_split (S.of 31 rfl) (fun bc5 => ?_) (fun bc5 => ?_)
 ·
  have c5 := not_eq_true_ bc5
  revert a;refine pN bc5 (pP (p_move rfl) rfl (pN bc5 (pP (p_leq rfl rfl) rfl (pP (p_pick_t rfl bc5 rfl) rfl (pL (pT (zc rfl (fun bc7 => ?_) (fun bc7 => ?_))))))))
  ·
   have c7 := of_decide_eq_true bc7
   have hcf : cm = false := c5
   obtain ⟨gb, cs, fb, rfl, hcs, rfl, hfb, hrow⟩ := hbuf.ex (by omega)
   have hfb' := hfb hcf
   subst hfb'
   replace H : HH wb.heap.size wb _ ((g, _) :: (gb, .cells cs 5 (0, 0)) :: (mr ++ (E ++ L))) := H
   refine pS ?_;intro a S
   refine d_start (id := 5) [13] 14 (bA 14 0) H rfl rfl rfl (fun w H => ?_)
   revert a;refine qM [0,1,4,5,8,9] rfl (qA 2 fa58_1 rfl rfl rfl rfl (qE 3 H rfl rfl rfl m0 rfl ag23 rfl (qA 6 fa58_1 rfl rfl rfl rfl (qE 7 H rfl rfl rfl m0 rfl ag23 rfl (qA 10 fa58_3 rfl rfl rfl rfl (qE 11 H rfl rfl rfl m0 rfl ag3 rfl (qP 12 rfl (p_slice rfl (o_some rfl) (fun _ _ => o_none) (fun _ _ => o_none) (fun w => sl_lo (m := r0 + p) Tryz.underlying23 sz5 rfl (by omega))) rfl ?_)))))));intro a S
   refine d_copy (k := l.length - (r0 + p)) (i := 13) (bA 14 16383) S H rfl rfl rfl rfl Tryz.underlying23 sz5 (hbuf.first H.tail (by omega)) (by omega) (Nat.min_eq_left (by omega)) (.there .here) (wanted_none rfl) rfl rfl (by kernel_rfl) rfl ?_; clear S a H; intro w a H S
   revert a;refine qD (pT (pS (pG (pM 2 rfl (pA fa58_3 rfl rfl rfl (pE H rfl rfl rfl .here (by first | decide | simp [Value.cells]) sz3 ?_))))));clear H;intro w H
   refine pL (pT (pG (pM 3 rfl (pA fa58_1 rfl rfl rfl (pD H rfl rfl m0 rfl ag23 rfl (pM 1 rfl (pP (p_slice rfl (fun _ _ => o_none) (o_some rfl) (fun _ _ => o_none) (fun w => sl_slice_hi Tryz.underlying23 sz5 (by omega) (by omega))) rfl (pM 1 rfl (pA fa58_1 rfl rfl rfl (pE H rfl rfl rfl .here (by first | decide | simp [Value.cells]) sz23 ?_))))))))));clear H;intro w H
   refine pL (pT (pS (pG (pM 3 rfl (pA fa58_3 rfl rfl rfl (pD H rfl rfl m0 rfl ag3 rfl (pM 1 rfl (pA fa58_2 rfl rfl rfl (pE H rfl rfl rfl .here (by first | decide | simp [Value.cells]) sz3 ?_)))))))));clear H;intro w H
   refine pL (pT (pG (pM 3 rfl (pA fa58_7 rfl rfl rfl (pD H rfl rfl m0 rfl ag23 rfl (pP (p_slice rfl (fun _ _ => o_none) (o_some rfl) (fun _ _ => o_none) (fun w => sl_slice_hi Tryz.underlying23 sz5 (by omega) (by omega))) rfl (pM 1 rfl (pA fa58_7 rfl rfl rfl (pE H rfl rfl rfl .here (by first | decide | simp [Value.cells]) sz23 ?_)))))))));clear H;intro w H
   refine pL ?_
   have hln : (l.drop (r0 + p)).length = l.length - (r0 + p) := List.length_drop
   rw [show List.take (l.length - (r0 + p)) ((l.drop (r0 + p)).map (Value.int .u8)) = (l.drop (r0 + p)).map (Value.int .u8) from List.take_of_length_le (by rw [List.length_map, hln]; exact Nat.le_refl _)] at H
   subst hcf
   rw [← hln] at H
   intro a S
   exact r_end0 S rfl ⟨_, _, E, rfl, ⟨(v - p), _, M, ⟨rd, _, l.drop (r0 + p), c, 0, _, mr, rfl, buf_copy hcs (hbuf.2.1 rfl) (by omega), by rw [List.drop_drop, show p + (v - p) = v by omega]; exact hrd, by rw [hln]; omega, (by rw [List.length_drop]; omega), by rw [List.drop_zero, ← List.drop_drop, hdr, List.drop_take], (by rw [List.length_drop]; omega), Nat.zero_le _⟩, by omega, ⟨A2, [], ce, rfl, ownB_zero hOw, Nat.zero_le _⟩, dc.open_.2 H⟩⟩
  have c7 := of_decide_eq_false bc7
  refine pK (pT (pS (pG (pM 3 rfl (pA fa58_3 rfl rfl rfl (pD H rfl rfl m0 rfl ag3 rfl (pM 1 rfl (pA fa58_2 rfl rfl rfl (pE H rfl rfl rfl .here (by first | decide | simp [Value.cells]) sz3 ?_)))))))));clear H;intro w H
  refine pL (pT (pG (pM 3 rfl (pA fa58_7 rfl rfl rfl (pD H rfl rfl m0 rfl ag23 rfl (pP (p_slice rfl (fun _ _ => o_none) (o_some rfl) (fun _ _ => o_none) (fun w => sl_slice_hi Tryz.underlying23 sz5 (by omega) (by omega))) rfl (pM 1 rfl (pA fa58_7 rfl rfl rfl (pE H rfl rfl rfl .here (by first | decide | simp [Value.cells]) sz23 ?_)))))))));clear H;intro w H
  refine pL ?_;intro a S
  exact r_end0 S rfl ⟨_, _, E, rfl, ⟨(v - p), _, M, ⟨rd, A, l, c, (r0 + p), mb, mr, rfl, hbuf, by rw [List.drop_drop, show p + (v - p) = v by omega]; exact hrd, by omega, (by rw [List.length_drop]; omega), by rw [← List.drop_drop, hdr, List.drop_take], (by rw [List.length_drop]; omega), Nat.zero_le _⟩, by omega, ⟨A2, [], ce, rfl, ownB_zero hOw, Nat.zero_le _⟩, dc.open_.2 H⟩⟩
 have c5 := not_eq_false_ bc5
 revert a;refine pO bc5 rfl (pO bc5 rfl (pP (p_pick_f rfl bc5 rfl) rfl (pL (pT (zf (pK (pT (pS (pG (pM 3 rfl (pA fa58_3 rfl rfl rfl (pD H rfl rfl m0 rfl ag3 rfl (pM 1 rfl (pA fa58_2 rfl rfl rfl (pE H rfl rfl rfl .here (by first | decide | simp [Value.cells]) sz3 ?_)))))))))))))));clear H;intro w H
 refine pL (pT (pG (pM 3 rfl (pA fa58_7 rfl rfl rfl (pD H rfl rfl m0 rfl ag23 rfl (pP (p_slice rfl (fun _ _ => o_none) (o_some rfl) (fun _ _ => o_none) (fun w => sl_slice_hi Tryz.underlying23 sz5 (by omega) (by omega))) rfl (pM 1 rfl (pA fa58_7 rfl rfl rfl (pE H rfl rfl rfl .here (by first | decide | simp [Value.cells]) sz23 ?_)))))))));clear H;intro w H
 refine pL ?_;intro a S
 exact r_end0 S rfl ⟨_, _, E, rfl, ⟨(v - p), _, M, ⟨rd, A, l, c, (r0 + p), mb, mr, rfl, hbuf, by rw [List.drop_drop, show p + (v - p) = v by omega]; exact hrd, by omega, (by rw [List.length_drop]; omega), by rw [← List.drop_drop, hdr, List.drop_take], (by rw [List.length_drop]; omega), Nat.zero_le _⟩, by omega, ⟨A2, [], ce, rfl, ownB_zero hOw, Nat.zero_le _⟩, dc.open_.2 H⟩⟩
end hd
end Go.Proofs.YtbahngfpadjbhaaGreatDoor.dec
end
section
namespace Go.Proofs.YtbahngfpadjbhaaGreatDoor.dec
open Go.Proofs.YtbahngfpadjbhaaGreatDoor.fx
open Go.RowKit Go.Proofs.HHW Go.Proofs.YtbahngfpadjbhaaGreatDoorW.PrintWords Go.Proofs.YtbahngfpadjbhaaGreatDoor.dt
namespace hf
set_option maxHeartbeats 1000000 in
theorem secS (wb w0 : World) (g : Nat) (X : List Int) (p V : Nat) (sec : Int) (sk : Bool) (line : Nat) (eb : Value) (K : Nat) (D E L : dc.Bk) (hst : ST TY 5 wb w0 g X p V sec sk line eb K D E L) (t : Int) (ht : t ≤ sec) : Calls Tryz.prog 20 #[.pointer (some ⟨g, 0, none⟩), .int .u8 t] w0 fun e w' => ∃ (eb' : Value) (D' E' L' : dc.Bk), e = .returned (.tuple #[.bool (decide (sec = t)), .nilIface]) ∧ ST TY 5 wb w' g X p V sec sk line eb' K D' E' L' ∧ Rel D E L eb D' E' L' eb' := by
 obtain ⟨eb', D', E', L', hst, hr⟩ : ∃ (eb' : Value) (D' E' L' : dc.Bk), ST TY 5 wb w0 g X p V sec sk line eb' K D' E' L' ∧ Rel D E L eb D' E' L' eb' := ⟨eb, D, E, L, hst, Rel.refl _ _ _ _⟩
 refine c_enter (args := [.pointer (some ⟨g, 0, none⟩), .int .u8 t]) (k := 43) Tryz.func20 rfl rfl rfl ?_
 refine pS (pG (pM 2 rfl (pL (pT (pS (pS (pG ?_)))))))
 obtain ⟨v, cm, M, hD, hV, heb, H⟩ := id hst
 obtain ⟨rd, A, l, c, r0, mb, mr, hDe, hbuf, hrd, hr0, hvX, hdr, hsz, hpX⟩ := id hD
 rw [hDe] at H
 replace H := dc.open_.1 H
 clear hst hD
 refine pM 2 rfl (pA fa58_5 rfl rfl rfl (pD H rfl rfl m0 rfl ag54 rfl (pM 1 rfl (pP (p_eql rfl rfl) rfl (pL ?_)))))
 obtain ⟨D', hst', hr'⟩ : ∃ D'', ST TY 5 wb _ g X p V sec sk line eb' K D'' E' L' ∧ Rel D' E' L' eb' D'' E' L' eb' := ⟨_, ⟨v, cm, M, ⟨rd, A, l, c, r0, mb, mr, rfl, hbuf, hrd, hr0, hvX, hdr, hsz, hpX⟩, hV, heb, dc.open_.2 H⟩, by rw [hDe]; exact (Rel.refl _ _ _ _).head rfl⟩
 clear H hbuf hrd hr0 hvX hdr hsz hV heb hpX hDe; have hcon := hst'; have hst := hst'
 replace hr := hr.trans hr'
 clear hst hr' hcon; have hst := hst'; clear hst'
 refine pT (zc rfl (fun bc3 => ?_) (fun bc3 => ?_))
 ·
  have c3 := eq_of_beq bc3
  refine pS (pG (pM 2 rfl (pL (pT (pZ (pU ?_))))));intro a S
  rw [show decide (sec = t) = true from decide_eq_true c3]
  exact r_ret2 S rfl rfl rfl ⟨eb', D', E', L', rfl, hst, hr⟩
 have c3 := ne_of_beq_false bc3
 refine pK (pT (pS (pS (pG ?_))))
 obtain ⟨v, cm, M, hD, hV, heb, H⟩ := id hst
 obtain ⟨rd, A, l, c, r0, mb, mr, hDe, hbuf, hrd, hr0, hvX, hdr, hsz, hpX⟩ := id hD
 rw [hDe] at H
 replace H := dc.open_.1 H
 clear hst hD
 refine pM 2 rfl (pA fa58_5 rfl rfl rfl (pD H rfl rfl m0 rfl ag54 rfl (pM 1 rfl (pP (p_gtr rfl rfl) rfl (pL ?_)))))
 obtain ⟨D', hst', hr'⟩ : ∃ D'', ST TY 5 wb _ g X p V sec sk line eb' K D'' E' L' ∧ Rel D' E' L' eb' D'' E' L' eb' := ⟨_, ⟨v, cm, M, ⟨rd, A, l, c, r0, mb, mr, rfl, hbuf, hrd, hr0, hvX, hdr, hsz, hpX⟩, hV, heb, dc.open_.2 H⟩, by rw [hDe]; exact (Rel.refl _ _ _ _).head rfl⟩
 clear H hbuf hrd hr0 hvX hdr hsz hV heb hpX hDe; have hcon := hst'; have hst := hst'
 replace hr := hr.trans hr'
 clear hst hr' hcon; have hst := hst'; clear hst'
 refine pT ?_;intro a S
 refine c_cond S rfl (fun c6 => ?_) (fun c6 => by have c6 := of_decide_eq_false c6; exfalso; omega)
 have c6 := of_decide_eq_true c6
 revert a;refine pS (pG (pM 2 rfl (pL (pT (pZ (pU ?_))))));intro a S
 rw [show decide (sec = t) = false from decide_eq_false c3]
 exact r_ret2 S rfl rfl rfl ⟨eb', D', E', L', rfl, hst, hr⟩
set_option maxHeartbeats 1000000 in
theorem lineS (wb w0 : World) (g : Nat) (X : List Int) (p V : Nat) (sec : Int) (sk : Bool) (line : Nat) (eb : Value) (K : Nat) (D E L : dc.Bk) (hst : ST TY 5 wb w0 g X p V sec sk line eb K D E L) (hW : Wb 118 1 2 3 0 wb) (hB : Bd X line K) : Calls Tryz.prog 71 #[.pointer (some ⟨g, 0, none⟩)] w0 fun e w' => ∃ (eb' : Value) (D' E' L' : dc.Bk), e = .returned (.tuple #[]) ∧ ST TY 5 wb w' g ((restP X p line).1) 0 0 5 sk ((restP X p line).2) eb' 0 D' E' L' ∧ Rl L L' := by
 obtain ⟨eb', D', E', L', hst, hr⟩ : ∃ (eb' : Value) (D' E' L' : dc.Bk), ST TY 5 wb w0 g X p V sec sk line eb' K D' E' L' ∧ Rel D E L eb D' E' L' eb' := ⟨eb, D, E, L, hst, Rel.refl _ _ _ _⟩
 refine c_enter (args := [.pointer (some ⟨g, 0, none⟩)]) (k := 21) Tryz.func71 rfl rfl rfl ?_
 refine pS (pG (pM 1 rfl ?_))
 have hcon := dec.hb.s13 _ _ _ _ _ _ _ _ _ _ _ _ _ _ hst
 refine pC Tryz.func88 hcon ?_
 rintro e w ⟨gs1, eb', D', E', L', rfl, hst', hr', hgs1⟩
 refine ⟨_, rfl, ?_⟩
 replace hr := hr.trans hr'
 clear hst hr' hcon; have hst := hst'; clear hst'
 have hcon := dec.hb.takS _ _ _ _ _ _ _ _ _ _ _ _ _ _ hst hW (hB) gs1 13 hgs1
 refine pC Tryz.func37 hcon ?_
 rintro e w ⟨A2, cA2, eb', D', E', L', rfl, hst', hr', hA2, hcA2⟩
 refine ⟨_, rfl, ?_⟩
 replace hr := hr.trans hr'
 replace hgs1 := hr'.mem hgs1
 clear hst hr' hcon; have hst := hst'; clear hst'
 have hgA2 := run_ge 13 X p
 refine pL (pT (pS (pS (pG (pM 1 rfl ?_)))))
 have hpX := hst.pX
 have hcon := dec.hb.atS _ _ _ _ _ _ _ _ _ _ _ _ _ _ hst (by omega)
 refine pC Tryz.func39 hcon ?_
 rintro e w ⟨eb', D', E', L', rfl, hst', hr'⟩
 refine ⟨_, rfl, ?_⟩
 replace hr := hr.trans hr'
 replace hA2 := hA2.rel hr'
 replace hgs1 := hr'.mem hgs1
 clear hst hr' hcon; have hst := hst'; clear hst'
 refine pP (p_eql rfl rfl) rfl (pL (pT (zc rfl (fun bc4 => ?_) (fun bc4 => ?_))))
 ·
  have c4 := eq_of_beq bc4
  have hlt := lt_of_at (X := X) (p := run 13 X p) (by rw [c4]; decide)
  have hR := rest_yes (line := line) c4
  have hln := hB.line
  refine pS (pG (pM 1 rfl ?_))
  have hpX := hst.pX
  have hcon := dec.hb.advS _ _ _ _ _ _ _ _ _ _ _ _ _ _ hst (by omega)
  refine pC Tryz.func42 hcon ?_
  rintro e w ⟨eb', D', E', L', rfl, hst', hr'⟩
  refine ⟨_, rfl, ?_⟩
  replace hr := hr.trans hr'
  replace hA2 := hA2.rel hr'
  replace hgs1 := hr'.mem hgs1
  clear hst hr' hcon; have hst := hst'; clear hst'
  refine pL (pT (pG ?_))
  obtain ⟨v, cm, M, hD, hV, heb, H⟩ := id hst
  obtain ⟨rd, A, l, c, r0, mb, mr, hDe, hbuf, hrd, hr0, hvX, hdr, hsz, hpX⟩ := id hD
  rw [hDe] at H
  replace H := dc.open_.1 H
  clear hst hD
  refine pM 2 rfl (pA fa58_8 rfl rfl rfl (pD H rfl rfl m0 rfl ag2 rfl (pP (p_add rfl rfl (nat_add (x := line) (y := 1) (by omega))) rfl (pM 1 rfl (pA fa58_8 rfl rfl rfl (pE H rfl rfl rfl .here (by first | decide | simp [Value.cells]) sz2 ?_))))));clear H;intro w H
  refine pL ?_
  obtain ⟨D', hst', hr'⟩ : ∃ D'', ST TY 5 wb _ g X (((run 13 X p) + 1)) ((min ((run 13 X p) + 1) X.length)) sec sk ((line + 1)) eb' K D'' E' L' ∧ Rel D' E' L' eb' D'' E' L' eb' := ⟨_, ⟨v, cm, M, ⟨rd, A, l, c, r0, mb, mr, rfl, hbuf, hrd, hr0, hvX, hdr, hsz, hpX⟩, hV, heb, dc.open_.2 H⟩, by rw [hDe]; exact (Rel.refl _ _ _ _).head rfl⟩
  clear H hbuf hrd hr0 hvX hdr hsz hV heb hpX hDe; have hcon := hst'; have hst := hst'
  replace hr := hr.trans hr'
  replace hA2 := hA2.rel hr'
  replace hgs1 := hr'.mem hgs1
  clear hst hr' hcon; have hst := hst'; clear hst'
  refine pT (pS (pG (pM 1 rfl ?_)))
  have hpX := hst.pX
  have hcon := dec.hd.resS _ _ _ _ _ _ _ _ _ _ _ _ _ _ hst (by omega)
  refine pC Tryz.func44 hcon ?_
  rintro e w ⟨eb'', D'', E'', rfl, hst'⟩
  refine ⟨_, rfl, ?_⟩
  have hl : Rl L L' := hr.rl
  have hst := hst'.le 0 (Nat.zero_le _); clear hcon hr hst'
  obtain ⟨eb', D', E', hst, hr⟩ : ∃ eb' D' E', ST TY 5 wb w g ((X.drop ((run 13 X p) + 1))) 0 0 sec sk ((line + 1)) eb' 0 D' E' L' ∧ Rel D' E' L' eb' D' E' L' eb' := ⟨eb'', D'', E'', hst, Rel.refl _ _ _ _⟩
  refine pL (pT (pG ?_))
  obtain ⟨v, cm, M, hD, hV, heb, H⟩ := id hst
  obtain ⟨rd, A, l, c, r0, mb, mr, hDe, hbuf, hrd, hr0, hvX, hdr, hsz, hpX⟩ := id hD
  rw [hDe] at H
  replace H := dc.open_.1 H
  clear hst hD
  refine pM 2 rfl (pA fa58_5 rfl rfl rfl (pE H rfl rfl rfl .here (by first | decide | simp [Value.cells]) sz54 ?_));clear H;intro w H
  refine pL ?_
  obtain ⟨D', hst', hr'⟩ : ∃ D'', ST TY 5 wb _ g ((X.drop ((run 13 X p) + 1))) 0 0 5 sk ((line + 1)) eb' 0 D'' E' L' ∧ Rel D' E' L' eb' D'' E' L' eb' := ⟨_, ⟨v, cm, M, ⟨rd, A, l, c, r0, mb, mr, rfl, hbuf, hrd, hr0, hvX, hdr, hsz, hpX⟩, hV, heb, dc.open_.2 H⟩, by rw [hDe]; exact (Rel.refl _ _ _ _).head rfl⟩
  clear H hbuf hrd hr0 hvX hdr hsz hV heb hpX hDe; have hcon := hst'; have hst := hst'
  replace hr := hr.trans hr'
  replace hgs1 := hr'.mem hgs1
  clear hst hr' hcon; have hst := hst'; clear hst'
  intro a S
  rw [hR]
  exact r_end0 S rfl ⟨eb', D', E', L', rfl, hst, hl⟩
 have c4 := ne_of_beq_false bc4
 have hR := rest_no (line := line) hB.by_ c4
 refine pK (pT (pS (pG (pM 1 rfl ?_))))
 have hpX := hst.pX
 have hcon := dec.hd.resS _ _ _ _ _ _ _ _ _ _ _ _ _ _ hst (by omega)
 refine pC Tryz.func44 hcon ?_
 rintro e w ⟨eb'', D'', E'', rfl, hst'⟩
 refine ⟨_, rfl, ?_⟩
 have hl : Rl L L' := hr.rl
 have hst := hst'.le 0 (Nat.zero_le _); clear hcon hr hst'
 obtain ⟨eb', D', E', hst, hr⟩ : ∃ eb' D' E', ST TY 5 wb w g ((X.drop (run 13 X p))) 0 0 sec sk line eb' 0 D' E' L' ∧ Rel D' E' L' eb' D' E' L' eb' := ⟨eb'', D'', E'', hst, Rel.refl _ _ _ _⟩
 refine pL (pT (pG ?_))
 obtain ⟨v, cm, M, hD, hV, heb, H⟩ := id hst
 obtain ⟨rd, A, l, c, r0, mb, mr, hDe, hbuf, hrd, hr0, hvX, hdr, hsz, hpX⟩ := id hD
 rw [hDe] at H
 replace H := dc.open_.1 H
 clear hst hD
 refine pM 2 rfl (pA fa58_5 rfl rfl rfl (pE H rfl rfl rfl .here (by first | decide | simp [Value.cells]) sz54 ?_));clear H;intro w H
 refine pL ?_
 obtain ⟨D', hst', hr'⟩ : ∃ D'', ST TY 5 wb _ g ((X.drop (run 13 X p))) 0 0 5 sk line eb' 0 D'' E' L' ∧ Rel D' E' L' eb' D'' E' L' eb' := ⟨_, ⟨v, cm, M, ⟨rd, A, l, c, r0, mb, mr, rfl, hbuf, hrd, hr0, hvX, hdr, hsz, hpX⟩, hV, heb, dc.open_.2 H⟩, by rw [hDe]; exact (Rel.refl _ _ _ _).head rfl⟩
 clear H hbuf hrd hr0 hvX hdr hsz hV heb hpX hDe; have hcon := hst'; have hst := hst'
 replace hr := hr.trans hr'
 replace hgs1 := hr'.mem hgs1
 clear hst hr' hcon; have hst := hst'; clear hst'
 intro a S
 rw [hR]
 exact r_end0 S rfl ⟨eb', D', E', L', rfl, hst, hl⟩
set_option maxHeartbeats 1000000 in
theorem conS (wb w0 : World) (g : Nat) (X : List Int) (p V : Nat) (sk : Bool) (line : Nat) (eb : Value) (K : Nat) (D E L : dc.Bk) (hst : ST TY 5 wb w0 g X p V 4 sk line eb K D E L) (hW : Wb 118 1 2 3 0 wb) (hB : Bd X line K) : Calls Tryz.prog 36 #[.pointer (some ⟨g, 0, none⟩)] w0 fun e w' => ∃ (eb' : Value) (D' E' L' : dc.Bk), e = .returned .nilIface ∧ ST TY 5 wb w' g ((restP X p line).1) 0 0 5 sk ((restP X p line).2) eb' 0 D' E' L' ∧ Rl L L' := by
 obtain ⟨eb', D', E', L', hst, hr⟩ : ∃ (eb' : Value) (D' E' L' : dc.Bk), ST TY 5 wb w0 g X p V 4 sk line eb' K D' E' L' ∧ Rel D E L eb D' E' L' eb' := ⟨eb, D, E, L, hst, Rel.refl _ _ _ _⟩
 refine c_enter (args := [.pointer (some ⟨g, 0, none⟩)]) (k := 68) Tryz.func36 rfl rfl rfl ?_
 refine pS (pG (pM 1 rfl (pL (pT (pS (pG ?_))))))
 obtain ⟨v, cm, M, hD, hV, heb, H⟩ := id hst
 obtain ⟨rd, A, l, c, r0, mb, mr, hDe, hbuf, hrd, hr0, hvX, hdr, hsz, hpX⟩ := id hD
 rw [hDe] at H
 replace H := dc.open_.1 H
 clear hst hD
 refine pM 2 rfl (pA fa58_5 rfl rfl rfl (pD H rfl rfl m0 rfl ag54 rfl (pL ?_)))
 obtain ⟨D', hst', hr'⟩ : ∃ D'', ST TY 5 wb _ g X p V 4 sk line eb' K D'' E' L' ∧ Rel D' E' L' eb' D'' E' L' eb' := ⟨_, ⟨v, cm, M, ⟨rd, A, l, c, r0, mb, mr, rfl, hbuf, hrd, hr0, hvX, hdr, hsz, hpX⟩, hV, heb, dc.open_.2 H⟩, by rw [hDe]; exact (Rel.refl _ _ _ _).head rfl⟩
 clear H hbuf hrd hr0 hvX hdr hsz hV heb hpX hDe; have hcon := hst'; have hst := hst'
 replace hr := hr.trans hr'
 clear hst hr' hcon; have hst := hst'; clear hst'
 refine pT (pB (pS (pG (pP (p_eql rfl rfl) rfl (pM 1 rfl (pL (pT (zf (pS (pG (pP (p_eql rfl rfl) rfl (pM 1 rfl (pL (pT (zf (pS (pG (pP (p_eql rfl rfl) rfl (pM 1 rfl (pL (pT (zf (pS (pG (pP (p_eql rfl rfl) rfl (pM 1 rfl (pL (pT (zf (pS (pG (pP (p_eql rfl rfl) rfl (pM 1 rfl (pL (pT (zt (pS (pG (pM 1 rfl ?_)))))))))))))))))))))))))))))))))))))))
 have hcon := lineS _ _ _ _ _ _ _ _ _ _ _ _ _ _ hst hW hB
 refine pC Tryz.func71 hcon ?_
 rintro e w ⟨eb', D', E', L', rfl, hst', hl⟩
 refine ⟨_, rfl, ?_⟩
 replace hl := hr.rl.trans hl; clear hr hcon hst; have hst := hst'; clear hst'
 refine pL (pT (pS (pG (pM 1 rfl (pL (pT (pZ (pJ ?_))))))));intro a S
 exact r_ret1 S rfl rfl ⟨eb', D', E', L', rfl, hst, hl⟩
set_option maxHeartbeats 1000000 in
theorem secN (wb w0 : World) (g : Nat) (X : List Int) (p V : Nat) (line : Nat) (eb : Value) (K : Nat) (D E L : dc.Bk) (hst : ST TY 5 wb w0 g X p V 4 false line eb K D E L) (hW : Wb 118 1 2 3 0 wb) (hB : Bd X line K) : Calls Tryz.prog 20 #[.pointer (some ⟨g, 0, none⟩), .int .u8 5] w0 fun e w' => ∃ (eb' : Value) (D' E' L' : dc.Bk), e = .returned (.tuple #[.bool true, .nilIface]) ∧ ST TY 5 wb w' g ((restP X p line).1) 0 0 5 false ((restP X p line).2) eb' 0 D' E' L' ∧ Rl L L' := by
 obtain ⟨eb', D', E', L', hst, hr⟩ : ∃ (eb' : Value) (D' E' L' : dc.Bk), ST TY 5 wb w0 g X p V 4 false line eb' K D' E' L' ∧ Rel D E L eb D' E' L' eb' := ⟨eb, D, E, L, hst, Rel.refl _ _ _ _⟩
 refine c_enter (args := [.pointer (some ⟨g, 0, none⟩), .int .u8 5]) (k := 43) Tryz.func20 rfl rfl rfl ?_
 refine pS (pG (pM 2 rfl (pL (pT (pS (pS (pG ?_)))))))
 obtain ⟨v, cm, M, hD, hV, heb, H⟩ := id hst
 obtain ⟨rd, A, l, c, r0, mb, mr, hDe, hbuf, hrd, hr0, hvX, hdr, hsz, hpX⟩ := id hD
 rw [hDe] at H
 replace H := dc.open_.1 H
 clear hst hD
 refine pM 2 rfl (pA fa58_5 rfl rfl rfl (pD H rfl rfl m0 rfl ag54 rfl (pM 1 rfl (pP (p_eql rfl rfl) rfl (pL ?_)))))
 obtain ⟨D', hst', hr'⟩ : ∃ D'', ST TY 5 wb _ g X p V 4 false line eb' K D'' E' L' ∧ Rel D' E' L' eb' D'' E' L' eb' := ⟨_, ⟨v, cm, M, ⟨rd, A, l, c, r0, mb, mr, rfl, hbuf, hrd, hr0, hvX, hdr, hsz, hpX⟩, hV, heb, dc.open_.2 H⟩, by rw [hDe]; exact (Rel.refl _ _ _ _).head rfl⟩
 clear H hbuf hrd hr0 hvX hdr hsz hV heb hpX hDe; have hcon := hst'; have hst := hst'
 replace hr := hr.trans hr'
 clear hst hr' hcon; have hst := hst'; clear hst'
 refine pT (zf (pK (pT (pS (pS (pG ?_))))))
 obtain ⟨v, cm, M, hD, hV, heb, H⟩ := id hst
 obtain ⟨rd, A, l, c, r0, mb, mr, hDe, hbuf, hrd, hr0, hvX, hdr, hsz, hpX⟩ := id hD
 rw [hDe] at H
 replace H := dc.open_.1 H
 clear hst hD
 refine pM 2 rfl (pA fa58_5 rfl rfl rfl (pD H rfl rfl m0 rfl ag54 rfl (pM 1 rfl (pP (p_gtr rfl rfl) rfl (pL ?_)))))
 obtain ⟨D', hst', hr'⟩ : ∃ D'', ST TY 5 wb _ g X p V 4 false line eb' K D'' E' L' ∧ Rel D' E' L' eb' D'' E' L' eb' := ⟨_, ⟨v, cm, M, ⟨rd, A, l, c, r0, mb, mr, rfl, hbuf, hrd, hr0, hvX, hdr, hsz, hpX⟩, hV, heb, dc.open_.2 H⟩, by rw [hDe]; exact (Rel.refl _ _ _ _).head rfl⟩
 clear H hbuf hrd hr0 hvX hdr hsz hV heb hpX hDe; have hcon := hst'; have hst := hst'
 replace hr := hr.trans hr'
 clear hst hr' hcon; have hst := hst'; clear hst'
 refine pT (zf (pK (pT (pS (pG ?_)))))
 obtain ⟨v, cm, M, hD, hV, heb, H⟩ := id hst
 obtain ⟨rd, A, l, c, r0, mb, mr, hDe, hbuf, hrd, hr0, hvX, hdr, hsz, hpX⟩ := id hD
 rw [hDe] at H
 replace H := dc.open_.1 H
 clear hst hD
 refine pM 2 rfl (pA fa58_6 rfl rfl rfl (pE H rfl rfl rfl .here (by first | decide | simp [Value.cells]) sz4 ?_));clear H;intro w H
 refine pL ?_
 obtain ⟨D', hst', hr'⟩ : ∃ D'', ST TY 5 wb _ g X p V 4 true line eb' K D'' E' L' ∧ Rel D' E' L' eb' D'' E' L' eb' := ⟨_, ⟨v, cm, M, ⟨rd, A, l, c, r0, mb, mr, rfl, hbuf, hrd, hr0, hvX, hdr, hsz, hpX⟩, hV, heb, dc.open_.2 H⟩, by rw [hDe]; exact (Rel.refl _ _ _ _).head rfl⟩
 clear H hbuf hrd hr0 hvX hdr hsz hV heb hpX hDe; have hcon := hst'; have hst := hst'
 replace hr := hr.trans hr'
 clear hst hr' hcon; have hst := hst'; clear hst'
 refine pT (pS (pB ?_))
 have hl : Rl L L' := hr.rl
 intro a S
 refine c_loop (σ := Bool) (fun s_ a w => SL a 45 [] [(0, .pointer (some ⟨g, 0, none⟩)), (1, .int .u8 5)] ∧ match s_ with | true => (∃ (eb' : Value) (D' E' L' : dc.Bk), ST TY 5 wb w g X p V 4 true line eb' K D' E' L' ∧ Rl L L') | false => (∃ (eb' : Value) (D' E' L' : dc.Bk), ST TY 5 wb w g ((restP X p line).1) 0 0 5 true ((restP X p line).2) eb' 0 D' E' L' ∧ Rl L L')) (fun s_ => match s_ with | true => 1 | false => 0) true ⟨S.only ⟨rfl, rfl, trivial⟩, eb', D', E', L', hst, hl⟩ ?_
 clear S a hst hr hl; rintro (_ | _) a w ⟨S, hinv⟩
 ·
  obtain ⟨eb', D', E', L', hst, hl⟩ : ∃ (eb' : Value) (D' E' L' : dc.Bk), ST TY 5 wb w g ((restP X p line).1) 0 0 5 true ((restP X p line).2) eb' 0 D' E' L' ∧ Rl L L' := hinv
  obtain ⟨hr, _⟩ : Rel D' E' L' eb' D' E' L' eb' ∧ True := ⟨Rel.refl _ _ _ _, trivial⟩
  revert a;refine pS (pS (pG ?_))
  obtain ⟨v, cm, M, hD, hV, heb, H⟩ := id hst
  obtain ⟨rd, A, l, c, r0, mb, mr, hDe, hbuf, hrd, hr0, hvX, hdr, hsz, hpX⟩ := id hD
  rw [hDe] at H
  replace H := dc.open_.1 H
  clear hst hD
  refine pM 2 rfl (pA fa58_5 rfl rfl rfl (pD H rfl rfl m0 rfl ag54 rfl (pM 1 rfl (pP (p_lss rfl rfl) rfl (pL ?_)))))
  obtain ⟨D', hst', hr'⟩ : ∃ D'', ST TY 5 wb _ g ((restP X p line).1) 0 0 5 true (((restP X p line).2)) eb' 0 D'' E' L' ∧ Rel D' E' L' eb' D'' E' L' eb' := ⟨_, ⟨v, cm, M, ⟨rd, A, l, c, r0, mb, mr, rfl, hbuf, hrd, hr0, hvX, hdr, hsz, hpX⟩, hV, heb, dc.open_.2 H⟩, by rw [hDe]; exact (Rel.refl _ _ _ _).head rfl⟩
  clear H hbuf hrd hr0 hvX hdr hsz hV heb hpX hDe; have hcon := hst'; have hst := hst'
  replace hr := hr.trans hr'
  clear hst hr' hcon; have hst := hst'; clear hst'
  refine pT (zf (pX (pV (pV (pW (pT (pS (pG ?_))))))))
  obtain ⟨v, cm, M, hD, hV, heb, H⟩ := id hst
  obtain ⟨rd, A, l, c, r0, mb, mr, hDe, hbuf, hrd, hr0, hvX, hdr, hsz, hpX⟩ := id hD
  rw [hDe] at H
  replace H := dc.open_.1 H
  clear hst hD
  refine pM 2 rfl (pA fa58_6 rfl rfl rfl (pE H rfl rfl rfl .here (by first | decide | simp [Value.cells]) sz4 ?_));clear H;intro w H
  refine pL ?_
  obtain ⟨D', hst', hr'⟩ : ∃ D'', ST TY 5 wb _ g ((restP X p line).1) 0 0 5 false ((((restP X p line).2))) eb' 0 D'' E' L' ∧ Rel D' E' L' eb' D'' E' L' eb' := ⟨_, ⟨v, cm, M, ⟨rd, A, l, c, r0, mb, mr, rfl, hbuf, hrd, hr0, hvX, hdr, hsz, hpX⟩, hV, heb, dc.open_.2 H⟩, by rw [hDe]; exact (Rel.refl _ _ _ _).head rfl⟩
  clear H hbuf hrd hr0 hvX hdr hsz hV heb hpX hDe; have hcon := hst'; have hst := hst'
  replace hr := hr.trans hr'
  clear hst hr' hcon; have hst := hst'; clear hst'
  refine pT (pS (pG ?_))
  obtain ⟨v, cm, M, hD, hV, heb, H⟩ := id hst
  obtain ⟨rd, A, l, c, r0, mb, mr, hDe, hbuf, hrd, hr0, hvX, hdr, hsz, hpX⟩ := id hD
  rw [hDe] at H
  replace H := dc.open_.1 H
  clear hst hD
  refine pM 2 rfl (pA fa58_5 rfl rfl rfl (pD H rfl rfl m0 rfl ag54 rfl (pM 1 rfl (pP (p_eql rfl rfl) rfl (pM 2 rfl (pL ?_))))))
  obtain ⟨D', hst', hr'⟩ : ∃ D'', ST TY 5 wb _ g ((restP X p line).1) 0 0 5 false (((((restP X p line).2)))) eb' 0 D'' E' L' ∧ Rel D' E' L' eb' D'' E' L' eb' := ⟨_, ⟨v, cm, M, ⟨rd, A, l, c, r0, mb, mr, rfl, hbuf, hrd, hr0, hvX, hdr, hsz, hpX⟩, hV, heb, dc.open_.2 H⟩, by rw [hDe]; exact (Rel.refl _ _ _ _).head rfl⟩
  clear H hbuf hrd hr0 hvX hdr hsz hV heb hpX hDe; have hcon := hst'; have hst := hst'
  replace hr := hr.trans hr'
  clear hst hr' hcon; have hst := hst'; clear hst'
  refine pT (pZ ?_);intro a S
  exact r_ret2 S rfl rfl rfl ⟨eb', D', E', L', rfl, hst, hl⟩
 obtain ⟨eb', D', E', L', hst, hl⟩ : ∃ (eb' : Value) (D' E' L' : dc.Bk), ST TY 5 wb w g X p V 4 true line eb' K D' E' L' ∧ Rl L L' := hinv
 obtain ⟨hr, _⟩ : Rel D' E' L' eb' D' E' L' eb' ∧ True := ⟨Rel.refl _ _ _ _, trivial⟩
 revert a;refine pS (pS (pG ?_))
 obtain ⟨v, cm, M, hD, hV, heb, H⟩ := id hst
 obtain ⟨rd, A, l, c, r0, mb, mr, hDe, hbuf, hrd, hr0, hvX, hdr, hsz, hpX⟩ := id hD
 rw [hDe] at H
 replace H := dc.open_.1 H
 clear hst hD
 refine pM 2 rfl (pA fa58_5 rfl rfl rfl (pD H rfl rfl m0 rfl ag54 rfl (pM 1 rfl (pP (p_lss rfl rfl) rfl (pL ?_)))))
 obtain ⟨D', hst', hr'⟩ : ∃ D'', ST TY 5 wb _ g X p V 4 true line eb' K D'' E' L' ∧ Rel D' E' L' eb' D'' E' L' eb' := ⟨_, ⟨v, cm, M, ⟨rd, A, l, c, r0, mb, mr, rfl, hbuf, hrd, hr0, hvX, hdr, hsz, hpX⟩, hV, heb, dc.open_.2 H⟩, by rw [hDe]; exact (Rel.refl _ _ _ _).head rfl⟩
 clear H hbuf hrd hr0 hvX hdr hsz hV heb hpX hDe; have hcon := hst'; have hst := hst'
 replace hr := hr.trans hr'
 clear hst hr' hcon; have hst := hst'; clear hst'
 refine pT (zt (pK (pT (pB (pS (pG (pM 1 rfl ?_)))))))
 have hcon := conS _ _ _ _ _ _ _ _ _ _ _ _ _ hst hW hB
 refine pC Tryz.func36 hcon ?_
 rintro e w ⟨eb', D', E', L', rfl, hst', hl'⟩
 refine ⟨_, rfl, ?_⟩
 replace hl := hl.trans hl'; clear hr hcon hst hl'; have hst := hst'; clear hst'; have hr := Rel.refl D' E' L' eb'
 refine pM 1 rfl (pL (pT (pS (pG (pM 1 rfl (pP (p_nilnilN mi51 rfl) rfl (pL (pT (zf (pK (pI 1 (pT ?_))))))))))));intro a S
 exact ⟨false, ⟨S.only ⟨rfl, rfl, trivial⟩, eb', D', E', L', hst, hl⟩, (by decide : (0 : Nat) < 1)⟩
end hf
end Go.Proofs.YtbahngfpadjbhaaGreatDoor.dec
end
section
namespace Go.Proofs.YtbahngfpadjbhaaGreatDoor.dec
open Go.Proofs.YtbahngfpadjbhaaGreatDoor.fx
open Go.RowKit Go.Proofs.HHW Go.Proofs.YtbahngfpadjbhaaGreatDoorW.PrintWords Go.Proofs.YtbahngfpadjbhaaGreatDoor.dt
namespace hg
set_option maxHeartbeats 1000000 in
theorem skipS (wb w0 : World) (g : Nat) (X : List Int) (p V : Nat) (sec : Int) (sk : Bool) (line : Nat) (eb : Value) (K : Nat) (D E L : dc.Bk) (hst : ST TY 5 wb w0 g X p V sec sk line eb K D E L) (hW : Wb 118 1 2 3 0 wb) (hB : Bd X line K) (hl5 : line ≤ 50000000) (hK5 : K ≤ 70000000) : Calls Tryz.prog 21 #[.pointer (some ⟨g, 0, none⟩)] w0 fun e w' => ∃ (eb' : Value) (D' E' L' : dc.Bk), e = .returned (.tuple #[]) ∧ ST TY 5 wb w' g X ((skipP X (X.length - p + 1) p line).1) 0 sec sk ((skipP X (X.length - p + 1) p line).2) eb' K D' E' L' ∧ Rel D E L eb D' E' L' eb' := by
 obtain ⟨eb', D', E', L', hst, hr⟩ : ∃ (eb' : Value) (D' E' L' : dc.Bk), ST TY 5 wb w0 g X p V sec sk line eb' K D' E' L' ∧ Rel D E L eb D' E' L' eb' := ⟨eb, D, E, L, hst, Rel.refl _ _ _ _⟩
 refine c_enter (args := [.pointer (some ⟨g, 0, none⟩)]) (k := 49) Tryz.func21 rfl rfl rfl ?_
 refine pB ?_
 have hpX := hst.pX
 replace hst := hst.le 0 (Nat.zero_le _)
 intro a S
 refine c_loop (σ := Nat × Nat × Nat) (fun s_ a w => match s_ with | ⟨q, ln, f⟩ => SL a 50 [] [(0, .pointer (some ⟨g, 0, none⟩))] ∧ ∃ (eb' : Value) (D' E' L' : dc.Bk), ST TY 5 wb w g X q 0 sec sk ln eb' K D' E' L' ∧ Rel D E L eb D' E' L' eb' ∧ X.length - q < f ∧ ln + p ≤ line + q ∧ p ≤ q ∧ skipP X (X.length - p + 1) p line = skipP X f q ln) (fun s_ => match s_ with | ⟨q, ln, f⟩ => X.length - q) ⟨p, line, X.length - p + 1⟩ ⟨S.only ⟨rfl, trivial⟩, eb', D', E', L', hst, hr, Nat.lt_succ_self _, Nat.le_refl _, Nat.le_refl _, rfl⟩ ?_
 clear S a hst hr; rintro ⟨q, ln, f⟩ a w ⟨S, eb', D', E', L', hst, hr, hf, hlq, hpq, hsk⟩
 obtain ⟨f, rfl⟩ : ∃ k, f = k + 1 := ⟨f - 1, by omega⟩
 have hqX := hst.pX
 have hln := hB.line
 have hXl := hB.len
 revert a;refine pB (pS ?_)
 obtain ⟨v, cm, M, hD, hV, heb, H⟩ := id hst
 obtain ⟨rd, A, l, c, r0, mb, mr, hDe, hbuf, hrd, hr0, hvX, hdr, hsz, hpX⟩ := id hD
 rw [hDe] at H
 replace H := dc.open_.1 H
 clear hst hD
 intro a S
 refine d_start (id := 0) [] 10 (bA 10 0) H rfl rfl rfl (fun w H => ?_)
 revert a;refine qM [0,1,4,5] rfl (qA 2 fa58_3 rfl rfl rfl rfl (qE 3 H rfl rfl rfl m0 rfl ag3 rfl (qA 6 fa58_2 rfl rfl rfl rfl (qE 7 H rfl rfl rfl m0 rfl ag3 rfl (qP 8 rfl (p_sub (r := ((q : Nat) : Int)) rfl rfl ((IntWalk.i64_in _ (by omega)).trans (by omega))) rfl (qM [9] rfl (qD ?_)))))))
 obtain ⟨D', hst', hr'⟩ : ∃ D'', ST TY 5 wb _ g X q 0 sec sk ln eb' K D'' E' L' ∧ Rel D' E' L' eb' D'' E' L' eb' := ⟨_, ⟨v, cm, M, ⟨rd, A, l, c, r0, mb, mr, rfl, hbuf, hrd, hr0, hvX, hdr, hsz, hpX⟩, hV, heb, dc.open_.2 H⟩, by rw [hDe]; exact (Rel.refl _ _ _ _).head rfl⟩
 clear H hbuf hrd hr0 hvX hdr hsz hV heb hpX hDe; have hcon := hst'; have hst := hst'
 replace hr := hr.trans hr'
 clear hst hr' hcon; have hst := hst'; clear hst'
 refine pT (pS (pG (pM 1 rfl ?_)))
 have hcon := dec.hb.s0 _ _ _ _ _ _ _ _ _ _ _ _ _ _ hst
 refine pC Tryz.func38 hcon ?_
 rintro e w ⟨gs1, eb', D', E', L', rfl, hst', hr', hgs1⟩
 refine ⟨_, rfl, ?_⟩
 replace hr := hr.trans hr'
 clear hst hr' hcon; have hst := hst'; clear hst'
 have hcon := dec.hb.takS _ _ _ _ _ _ _ _ _ _ _ _ _ _ hst hW (hB.up (by omega) (by omega)) gs1 0 hgs1
 refine pC Tryz.func37 hcon ?_
 rintro e w ⟨A2, cA2, eb', D', E', L', rfl, hst', hr', hA2, hcA2⟩
 refine ⟨_, rfl, ?_⟩
 replace hr := hr.trans hr'
 replace hgs1 := hr'.mem hgs1
 clear hst hr' hcon; have hst := hst'; clear hst'
 have hgA2 := run_ge 0 X q
 refine pL (pT (pS (pG (pM 1 rfl ?_))))
 have hpX := hst.pX
 have hcon := dec.hb.atS _ _ _ _ _ _ _ _ _ _ _ _ _ _ hst (by omega)
 refine pC Tryz.func39 hcon ?_
 rintro e w ⟨eb', D', E', L', rfl, hst', hr'⟩
 refine ⟨_, rfl, ?_⟩
 replace hr := hr.trans hr'
 replace hA2 := hA2.rel hr'
 replace hgs1 := hr'.mem hgs1
 clear hst hr' hcon; have hst := hst'; clear hst'
 refine pL (pT (pB (pS (pG (pP (p_eql rfl rfl) rfl (pM 1 rfl (pL (pT (zc rfl (fun bc4 => ?_) (fun bc4 => ?_))))))))))
 ·
  have c4 := eq_of_beq bc4
  have hrc := run_comment (X := X) (p := q) c4
  have hg0 := run_ge 0 X q
  refine pS (pG (pM 1 rfl ?_))
  have hcon := dec.hb.s11 _ _ _ _ _ _ _ _ _ _ _ _ _ _ hst
  refine pC Tryz.func40 hcon ?_
  rintro e w ⟨gs5, eb', D', E', L', rfl, hst', hr', hgs5⟩
  refine ⟨_, rfl, ?_⟩
  replace hr := hr.trans hr'
  replace hA2 := hA2.rel hr'
  replace hgs1 := hr'.mem hgs1
  clear hst hr' hcon; have hst := hst'; clear hst'
  have hcon := dec.hb.takS _ _ _ _ _ _ _ _ _ _ _ _ _ _ hst hW (hB.up (by omega) (by omega)) gs5 11 hgs5
  refine pC Tryz.func37 hcon ?_
  rintro e w ⟨A6, cA6, eb', D', E', L', rfl, hst', hr', hA6, hcA6⟩
  refine ⟨_, rfl, ?_⟩
  replace hr := hr.trans hr'
  replace hA2 := hA2.rel hr'
  replace hgs1 := hr'.mem hgs1
  replace hgs5 := hr'.mem hgs5
  clear hst hr' hcon; have hst := hst'; clear hst'
  have hgA6 := run_ge 11 X (run 0 X q)
  refine pL (pT (pS (pG (pM 1 rfl ?_))))
  have hcon := dec.hb.eolS _ _ _ _ _ _ _ _ _ _ _ _ _ _ hst hW (hB.up (by omega) (by omega))
  refine pC Tryz.func41 hcon ?_
  rintro e w ⟨eb', D', E', L', rfl, hst', hr'⟩
  refine ⟨_, rfl, ?_⟩
  replace hr := hr.trans hr'
  replace hA2 := hA2.rel hr'
  replace hA6 := hA6.rel hr'
  replace hgs1 := hr'.mem hgs1
  replace hgs5 := hr'.mem hgs5
  clear hst hr' hcon; have hst := hst'; clear hst'
  refine pP (p_not rfl) rfl (pL (pT (zc rfl (fun bc9 => ?_) (fun bc9 => ?_))))
  ·
   have c9 := not_eq_true_ bc9
   obtain ⟨hz1, hz2⟩ := eol_no c9
   rw [hz2, hz1] at hst
   simp only [Nat.add_zero] at hst
   refine pS (pG ?_)
   obtain ⟨v, cm, M, hD, hV, heb, H⟩ := id hst
   obtain ⟨rd, A, l, c, r0, mb, mr, hDe, hbuf, hrd, hr0, hvX, hdr, hsz, hpX⟩ := id hD
   rw [hDe] at H
   replace H := dc.open_.1 H
   clear hst hD
   refine pM 3 rfl (pA fa58_2 rfl rfl rfl (pD H rfl rfl m0 rfl ag3 rfl (pM 1 rfl (pP (p_add rfl rfl (nat_add (x := r0) (y := q) (by omega))) rfl (pM 1 rfl (pA fa58_3 rfl rfl rfl (pE H rfl rfl rfl .here (by first | decide | simp [Value.cells]) sz3 ?_)))))));clear H;intro w H
   refine pL ?_
   obtain ⟨D', hst', hr'⟩ : ∃ D'', ST TY 5 wb _ g X q 0 sec sk ln eb' K D'' E' L' ∧ Rel D' E' L' eb' D'' E' L' eb' := ⟨_, ⟨v, cm, M, ⟨rd, A, l, c, r0, mb, mr, rfl, hbuf, hrd, hr0, hvX, hdr, hsz, by omega⟩, hV, heb, dc.open_.2 H⟩, by rw [hDe]; exact (Rel.refl _ _ _ _).head rfl⟩
   clear H hbuf hrd hr0 hvX hdr hsz hV heb hpX hDe; have hcon := hst'; have hst := hst'
   replace hr := hr.trans hr'
   replace hA2 := hA2.rel hr'
   replace hA6 := hA6.rel hr'
   replace hgs1 := hr'.mem hgs1
   replace hgs5 := hr'.mem hgs5
   clear hst hr' hcon; have hst := hst'; clear hst'
   refine pT (pZ (pJ (pJ (pU (pJ ?_)))));intro a S
   rw [hsk.trans (skip_cn c4 (by rw [c9]; decide))]
   exact r_ret0 S rfl ⟨eb', D', E', L', rfl, hst.le 0 (Nat.zero_le _), hr⟩
  have c9 := not_eq_false_ bc9
  have hel := eol_le (X := X) (p := run 11 X (run 0 X q)) (run_le (run_le hqX))
  refine pK (pI 2 (pI 1 (pT ?_)))
  have hq' := hst.pX
  intro a S
  exact ⟨⟨((run 11 X (run 0 X q)) + (dc.eol X (run 11 X (run 0 X q))).2.1), (ln + (dc.eol X (run 11 X (run 0 X q))).2.2), f⟩, ⟨S.only ⟨rfl, trivial⟩, eb', D', E', L', hst.le 0 (Nat.zero_le _), hr, by omega, by omega, by omega, hsk.trans (skip_c c4 c9)⟩, (show X.length - ((run 11 X (run 0 X q)) + (dc.eol X (run 11 X (run 0 X q))).2.1) < X.length - q from by omega)⟩
 have c4 := ne_of_beq_false bc4
 have hg0 := run_ge 0 X q
 refine pS (pG (pP (p_eql rfl rfl) rfl (pM 1 rfl (pL (pT (zc rfl (fun bc11 => ?_) (fun bc11 => ?_)))))))
 ·
  have c11 := eq_of_beq bc11
  have hlt := lt_of_at (X := X) (p := run 0 X q) (by rw [c11]; decide)
  refine pS (pG ?_)
  obtain ⟨v, cm, M, hD, hV, heb, H⟩ := id hst
  obtain ⟨rd, A, l, c, r0, mb, mr, hDe, hbuf, hrd, hr0, hvX, hdr, hsz, hpX⟩ := id hD
  rw [hDe] at H
  replace H := dc.open_.1 H
  clear hst hD
  refine pM 2 rfl (pA fa58_8 rfl rfl rfl (pD H rfl rfl m0 rfl ag2 rfl (pP (p_add rfl rfl (nat_add (x := ln) (y := 1) (by omega))) rfl (pM 1 rfl (pA fa58_8 rfl rfl rfl (pE H rfl rfl rfl .here (by first | decide | simp [Value.cells]) sz2 ?_))))));clear H;intro w H
  refine pL ?_
  obtain ⟨D', hst', hr'⟩ : ∃ D'', ST TY 5 wb _ g X ((run 0 X q)) ((min ((run 0 X q) + 1) X.length)) sec sk ((ln + 1)) eb' K D'' E' L' ∧ Rel D' E' L' eb' D'' E' L' eb' := ⟨_, ⟨v, cm, M, ⟨rd, A, l, c, r0, mb, mr, rfl, hbuf, hrd, hr0, hvX, hdr, hsz, hpX⟩, hV, heb, dc.open_.2 H⟩, by rw [hDe]; exact (Rel.refl _ _ _ _).head rfl⟩
  clear H hbuf hrd hr0 hvX hdr hsz hV heb hpX hDe; have hcon := hst'; have hst := hst'
  replace hr := hr.trans hr'
  replace hA2 := hA2.rel hr'
  replace hgs1 := hr'.mem hgs1
  clear hst hr' hcon; have hst := hst'; clear hst'
  refine pT (pG (pM 1 rfl ?_))
  have hpX := hst.pX
  have hcon := dec.hb.advS _ _ _ _ _ _ _ _ _ _ _ _ _ _ hst (by omega)
  refine pC Tryz.func42 hcon ?_
  rintro e w ⟨eb', D', E', L', rfl, hst', hr'⟩
  refine ⟨_, rfl, ?_⟩
  replace hr := hr.trans hr'
  replace hA2 := hA2.rel hr'
  replace hgs1 := hr'.mem hgs1
  clear hst hr' hcon; have hst := hst'; clear hst'
  refine pL (pI 2 (pI 1 (pT ?_)))
  have hq' := hst.pX
  intro a S
  exact ⟨⟨((run 0 X q) + 1), (ln + 1), f⟩, ⟨S.only ⟨rfl, trivial⟩, eb', D', E', L', hst.le 0 (Nat.zero_le _), hr, by omega, by omega, by omega, hsk.trans (skip_l c11)⟩, (show X.length - ((run 0 X q) + 1) < X.length - q from by omega)⟩
 have c11 := ne_of_beq_false bc11
 refine pS (pG (pP (p_eql rfl rfl) rfl (pM 1 rfl (pL (pT (zc rfl (fun bc13 => ?_) (fun bc13 => ?_)))))))
 ·
  have c13 := eq_of_beq bc13
  refine pS (pG (pM 1 rfl ?_))
  have hcon := dec.hb.eolS _ _ _ _ _ _ _ _ _ _ _ _ _ _ hst hW (hB.up (by omega) (by omega))
  refine pC Tryz.func41 hcon ?_
  rintro e w ⟨eb', D', E', L', rfl, hst', hr'⟩
  refine ⟨_, rfl, ?_⟩
  replace hr := hr.trans hr'
  replace hA2 := hA2.rel hr'
  replace hgs1 := hr'.mem hgs1
  clear hst hr' hcon; have hst := hst'; clear hst'
  refine pP (p_not rfl) rfl (pL (pT (zc rfl (fun bc16 => ?_) (fun bc16 => ?_))))
  ·
   have c16 := not_eq_true_ bc16
   obtain ⟨hz1, hz2⟩ := eol_no c16
   rw [hz2, hz1] at hst
   simp only [Nat.add_zero] at hst
   refine pZ (pJ (pJ (pU (pJ ?_))));intro a S
   rw [hsk.trans (skip_rn c13 (by rw [c16]; decide))]
   exact r_ret0 S rfl ⟨eb', D', E', L', rfl, hst.le 0 (Nat.zero_le _), hr⟩
  have c16 := not_eq_false_ bc16
  have hcr := eol_cr c13 c16
  have hel := eol_le (X := X) (p := run 0 X q) (by rename_i hpX' _; exact run_le hqX)
  refine pK (pI 2 (pI 1 (pT ?_)))
  have hq' := hst.pX
  intro a S
  exact ⟨⟨((run 0 X q) + (dc.eol X (run 0 X q)).2.1), (ln + (dc.eol X (run 0 X q)).2.2), f⟩, ⟨S.only ⟨rfl, trivial⟩, eb', D', E', L', hst.le 0 (Nat.zero_le _), hr, by omega, by omega, by omega, hsk.trans (skip_r c13 c16)⟩, (show X.length - ((run 0 X q) + (dc.eol X (run 0 X q)).2.1) < X.length - q from by omega)⟩
 have c13 := ne_of_beq_false bc13
 refine pZ (pJ (pJ (pU (pJ ?_))));intro a S
 rw [hsk.trans (skip_end c4 c11 c13)]
 exact r_ret0 S rfl ⟨eb', D', E', L', rfl, hst.le 0 (Nat.zero_le _), hr⟩
end hg
end Go.Proofs.YtbahngfpadjbhaaGreatDoor.dec
end
section
namespace Go.Proofs.YtbahngfpadjbhaaGreatDoor.dec
open Go.Proofs.YtbahngfpadjbhaaGreatDoor.fx
open Go.RowKit Go.Proofs.HHW Go.Proofs.YtbahngfpadjbhaaGreatDoorW.PrintWords Go.Proofs.YtbahngfpadjbhaaGreatDoor.dt
namespace hh
set_option maxHeartbeats 1000000 in
theorem nameS (wb w0 : World) (g : Nat) (X : List Int) (p V : Nat) (line : Nat) (eb : Value) (K : Nat) (D E L : dc.Bk) (hst : ST TY 5 wb w0 g X p V 0 false line eb K D E L) (hpV : p ≤ V) (hW : Wb 118 1 2 3 0 wb) (hB : Bd X line K) (hl5 : line ≤ 50000000) (hK5 : K ≤ 70000000) : Calls Tryz.prog 23 #[.pointer (some ⟨g, 0, none⟩)] w0 fun e w' => ∃ (v err : Value) (eb' : Value) (D' E' L' : dc.Bk), e = .returned (.tuple #[v, err]) ∧ ST TY 5 wb w' g (X.drop p) ((nameP (X.drop p) line).p) 0 ((nameP (X.drop p) line).sec) false ((nameP (X.drop p) line).line) eb' 8000 D' E' L' ∧ Rl L L' ∧ NameR ⟨104, 101, 118⟩ wb.heap.size D' E' L' eb' (nameP (X.drop p) line) v err := by
 obtain ⟨eb', D', E', L', hst, hr⟩ : ∃ (eb' : Value) (D' E' L' : dc.Bk), ST TY 5 wb w0 g X p V 0 false line eb' K D' E' L' ∧ Rel D E L eb D' E' L' eb' := ⟨eb, D, E, L, hst, Rel.refl _ _ _ _⟩
 refine c_enter (args := [.pointer (some ⟨g, 0, none⟩)]) (k := 65) Tryz.func23 rfl rfl rfl ?_
 refine pS (pG (pM 2 rfl (pL (pT (pS (pS (pG (pM 1 rfl ?_))))))))
 have hcon := dec.hf.secS _ _ _ _ _ _ _ _ _ _ _ _ _ _ hst 0 (by decide)
 rw [show decide ((0 : Int) = 0) = true from rfl] at hcon
 refine pC Tryz.func20 hcon ?_
 rintro e w ⟨eb', D', E', L', rfl, hst', hr'⟩
 refine ⟨_, rfl, ?_⟩
 replace hr := hr.trans hr'
 clear hst hr' hcon; have hst := hst'; clear hst'
 refine pM 5 rfl (pL (pT (pS (pG (pM 1 rfl (pP (p_nilnilN mi51 rfl) rfl (pL (pT (zf (pS (pG (pM 1 rfl (pP (p_not rfl) rfl (pL (pT (zf (pK (pT (pS (pG (pM 1 rfl ?_)))))))))))))))))))))
 have hpX := hst.pX
 have hcon := dec.hd.resS _ _ _ _ _ _ _ _ _ _ _ _ _ _ hst (by omega)
 refine pC Tryz.func44 hcon ?_
 rintro e w ⟨eb'', D'', E'', rfl, hst'⟩
 refine ⟨_, rfl, ?_⟩
 have hl : Rl L L' := hr.rl
 have hst := hst'.le 0 (Nat.zero_le _); clear hcon hr hst'
 obtain ⟨eb', D', E', hst, hr⟩ : ∃ eb' D' E', ST TY 5 wb w g ((X.drop p)) 0 0 0 false line eb' 0 D' E' L' ∧ Rel D' E' L' eb' D' E' L' eb' := ⟨eb'', D'', E'', hst, Rel.refl _ _ _ _⟩
 replace hB := hB.drop p 0 (by omega)
 refine pL (pT (pS (pG (pM 1 rfl ?_))))
 have hcon := dec.hb.s5 _ _ _ _ _ _ _ _ _ _ _ _ _ _ hst
 refine pC Tryz.func46 hcon ?_
 rintro e w ⟨gs6, eb', D', E', L', rfl, hst', hr', hgs6⟩
 refine ⟨_, rfl, ?_⟩
 replace hr := hr.trans hr'
 clear hst hr' hcon; have hst := hst'; clear hst'
 have hcon := dec.hb.e0 _ _ _ _ _ _ _ _ _ _ _ _ _ _ hst
 refine pC Tryz.func47 hcon ?_
 rintro e w ⟨ge7, eb', D', E', L', rfl, hst', hr', hge7⟩
 refine ⟨_, rfl, ?_⟩
 replace hr := hr.trans hr'
 replace hgs6 := hr'.mem hgs6
 clear hst hr' hcon; have hst := hst'; clear hst'
 refine pP (p_nilCheck rfl) rfl (pA fa96_1 rfl rfl rfl ?_)
 have hpA8 := hst.pX
 have hcon := dec.hb.escS_ _ _ _ _ _ _ _ _ _ _ _ _ _ _ hst hW (hB) rfl gs6 5 hgs6 ge7 0 (by decide) hge7
 refine pC Tryz.func45 hcon ?_
 rintro e w ⟨A8, cA8, err, sec', eb', D', E', L', rfl, hst', hr', hA8, hcA8, hf⟩
 refine ⟨_, rfl, ?_⟩
 replace hr := hr.trans hr'
 replace hgs6 := hr'.mem hgs6
 replace hge7 := hr'.mem hge7
 clear hst hr' hcon; have hst := hst'; clear hst'
 have hqA8 := tkQ_le (k := 0) (s := 5) hpA8
 rcases hf with ⟨hvA8, rfl, rfl⟩ | ⟨hvA8, rfl, hflt⟩
 ·
  replace hst : ST TY 5 wb w g ((X.drop p)) ((tkQ 0 5 (X.drop p) 0)) ((tkQ 0 5 (X.drop p) 0)) 0 false line eb' ((0 + 8000)) D' E' L' := hst
  refine pM 7 rfl (pL (pT (pS (pS (pG (pM 1 rfl (pP (p_nilnilN mi51 rfl) rfl (pL (pT (zf (pK (pT (pS (pS (pG (pM 1 rfl (pP (p_len Tryz.underlying23 rfl) rfl (pP (p_eql rfl rfl) rfl (pL (pT (zc rfl (fun bc12 => ?_) (fun bc12 => ?_))))))))))))))))))))))
  ·
   have c12 := eq_of_beq bc12
   refine pS (pS (pG (pM 1 rfl ?_)))
   have hcon := dec.hb.ensS _ _ _ _ _ _ _ _ _ _ _ _ _ _ hst hW
   refine pC Tryz.func22 hcon ?_
   rintro e w ⟨eb', D', E', L', rfl, hst', hr'⟩
   refine ⟨_, rfl, ?_⟩
   replace hr := hr.trans hr'
   replace hA8 := hA8.rel hr'
   replace hgs6 := hr'.mem hgs6
   replace hge7 := hr'.mem hge7
   clear hst hr' hcon; have hst := hst'; clear hst'
   refine pP (p_not rfl) rfl (pL (pT (zc rfl (fun bc15 => ?_) (fun bc15 => ?_))))
   ·
    have c15 := not_eq_true_ bc15
    have c15 := of_decide_eq_false c15
    refine pS (pG (pM 2 rfl ?_))
    have hcon := dec.hb.errS _ _ _ _ _ _ _ _ _ _ _ _ _ _ hst ⟨#[110, 111, 32, 109, 101, 97, 115, 117, 114, 101, 109, 101, 110, 116, 32, 110, 97, 109, 101, 32, 102, 111, 117, 110, 100]⟩
    refine pC Tryz.func49 hcon ?_
    rintro e w ⟨gn16, eb', D', E', L', rfl, hst', hr', hgn16, mgn16⟩
    refine ⟨_, rfl, ?_⟩
    replace hr := hr.trans hr'
    replace hA8 := hA8.rel hr'
    replace hgs6 := hr'.mem hgs6
    replace hge7 := hr'.mem hge7
    clear hst hr' hcon; have hst := hst'; clear hst'
    have hpX := hst.pX
    have hcon := dec.hb.synS _ _ _ _ _ _ _ _ _ _ _ _ _ _ hst (hB.up (by omega) (by omega)) 0 gn16 (by omega) (by omega) hgn16 ⟨_, _, mgn16⟩
    refine pC Tryz.func48 hcon ?_
    rintro e w ⟨err, eb', D', E', L', rfl, hst', hr', hflt⟩
    refine ⟨_, rfl, ?_⟩
    replace hr := hr.trans hr'
    replace hA8 := hA8.rel hr'
    replace hgs6 := hr'.mem hgs6
    replace hge7 := hr'.mem hge7
    replace mgn16 := hr'.mem mgn16
    clear hst hr' hcon; have hst := hst'; clear hst'
    refine pM 2 rfl (pL (pT (pZ (pU (pU ?_)))))
    have hR : nameP (X.drop p) line = ⟨[], some (flt (X.drop p) 0 (tkQ 0 5 (X.drop p) 0) line), (tkQ 0 5 (X.drop p) 0), 4, line⟩ := (if_neg (tru_ne hvA8)).trans (if_pos (List.length_eq_zero_iff.1 (by omega)))
    intro a S
    rw [hR]
    exact r_ret2 S rfl rfl rfl ⟨_, _, eb', D', E', L', rfl, hst.le 0 (Nat.zero_le _), hl.trans hr.rl, ⟨.inr ⟨_, rfl, hflt⟩, fun h => by cases h⟩⟩
   have c15 := not_eq_false_ bc15
   have c15 := of_decide_eq_true c15
   refine pK (pT (pS (pG (pM 2 rfl ?_))))
   have hcon := dec.hb.errS _ _ _ _ _ _ _ _ _ _ _ _ _ _ hst ⟨#[105, 110, 118, 97, 108, 105, 100, 32, 99, 104, 97, 114, 97, 99, 116, 101, 114, 32, 46, 46, 32, 102, 111, 117, 110, 100, 32, 97, 116, 32, 115, 116, 97, 114, 116, 32, 111, 102, 32, 109, 101, 97, 115, 117, 114, 101, 109, 101, 110, 116, 32, 110, 97, 109, 101]⟩
   refine pC Tryz.func49 hcon ?_
   rintro e w ⟨gn17, eb', D', E', L', rfl, hst', hr', hgn17, mgn17⟩
   refine ⟨_, rfl, ?_⟩
   replace hr := hr.trans hr'
   replace hA8 := hA8.rel hr'
   replace hgs6 := hr'.mem hgs6
   replace hge7 := hr'.mem hge7
   clear hst hr' hcon; have hst := hst'; clear hst'
   have hpX := hst.pX
   have hcon := dec.hb.synS _ _ _ _ _ _ _ _ _ _ _ _ _ _ hst (hB.up (by omega) (by omega)) 0 gn17 (by omega) (by omega) hgn17 ⟨_, _, mgn17⟩
   refine pC Tryz.func48 hcon ?_
   rintro e w ⟨err, eb', D', E', L', rfl, hst', hr', hflt⟩
   refine ⟨_, rfl, ?_⟩
   replace hr := hr.trans hr'
   replace hA8 := hA8.rel hr'
   replace hgs6 := hr'.mem hgs6
   replace hge7 := hr'.mem hge7
   replace mgn17 := hr'.mem mgn17
   clear hst hr' hcon; have hst := hst'; clear hst'
   refine pM 2 rfl (pL (pT (pZ (pU ?_))))
   have hR : nameP (X.drop p) line = ⟨[], some (flt (X.drop p) 0 (tkQ 0 5 (X.drop p) 0) line), (tkQ 0 5 (X.drop p) 0), 4, line⟩ := (if_neg (tru_ne hvA8)).trans (if_pos (List.length_eq_zero_iff.1 (by omega)))
   intro a S
   rw [hR]
   exact r_ret2 S rfl rfl rfl ⟨_, _, eb', D', E', L', rfl, hst.le 0 (Nat.zero_le _), hl.trans hr.rl, ⟨.inr ⟨_, rfl, hflt⟩, fun h => by cases h⟩⟩
  have c12 := ne_of_beq_false bc12
  refine pK (pT (pS (pS (pG (pM 1 rfl ?_)))))
  obtain ⟨gx18, ox18, rfl, hRx18⟩ := (hst.sb hA8 hcA8 (fun h_ => c12 (by rw [h_]; rfl))).get (i := 0) (by omega)
  refine pP (p_indexAddr rfl rfl (fun w => ia_slice Tryz.underlying23 sz5 (by omega) (by omega))) rfl (pR (HH.start _) (r_byte (l := (tkT 0 5 (X.drop p) 0)) (i := 0) (v := (tkT 0 5 (X.drop p) 0).getD (0) 0) rfl (by omega) ag5 hRx18 rfl (get_some 0 (by omega))) rfl (pP (p_eql rfl rfl) rfl (pL (pT (zc rfl (fun bc20 => ?_) (fun bc20 => ?_))))))
  ·
   have c20 := eq_of_beq bc20
   refine pS (pG (pM 2 rfl ?_))
   have hcon := dec.hb.errS _ _ _ _ _ _ _ _ _ _ _ _ _ _ hst ⟨#[105, 110, 118, 97, 108, 105, 100, 32, 99, 104, 97, 114, 97, 99, 116, 101, 114, 32, 102, 111, 117, 110, 100, 32, 105, 110, 32, 99, 111, 109, 109, 101, 110, 116, 32, 108, 105, 110, 101]⟩
   refine pC Tryz.func49 hcon ?_
   rintro e w ⟨gn21, eb', D', E', L', rfl, hst', hr', hgn21, mgn21⟩
   refine ⟨_, rfl, ?_⟩
   replace hr := hr.trans hr'
   replace hA8 := hA8.rel hr'
   replace hgs6 := hr'.mem hgs6
   replace hge7 := hr'.mem hge7
   clear hst hr' hcon; have hst := hst'; clear hst'
   have hpX := hst.pX
   have hcon := dec.hb.synS _ _ _ _ _ _ _ _ _ _ _ _ _ _ hst (hB.up (by omega) (by omega)) 0 gn21 (by omega) (by omega) hgn21 ⟨_, _, mgn21⟩
   refine pC Tryz.func48 hcon ?_
   rintro e w ⟨err, eb', D', E', L', rfl, hst', hr', hflt⟩
   refine ⟨_, rfl, ?_⟩
   replace hr := hr.trans hr'
   replace hA8 := hA8.rel hr'
   replace hgs6 := hr'.mem hgs6
   replace hge7 := hr'.mem hge7
   replace mgn21 := hr'.mem mgn21
   clear hst hr' hcon; have hst := hst'; clear hst'
   refine pM 2 rfl (pL (pT (pZ (pU ?_))))
   have hR : nameP (X.drop p) line = ⟨[], some (flt (X.drop p) 0 (tkQ 0 5 (X.drop p) 0) line), (tkQ 0 5 (X.drop p) 0), 4, line⟩ := (if_neg (tru_ne hvA8)).trans ((if_neg (fun h => c12 (by rw [h]; rfl))).trans (if_pos c20))
   intro a S
   rw [hR]
   exact r_ret2 S rfl rfl rfl ⟨_, _, eb', D', E', L', rfl, hst.le 0 (Nat.zero_le _), hl.trans hr.rl, ⟨.inr ⟨_, rfl, hflt⟩, fun h => by cases h⟩⟩
  have c20 := ne_of_beq_false bc20
  refine pK (pT (pS (pS (pG (pM 1 rfl ?_)))))
  have hcon := dec.hc.comS _ _ _ _ _ _ _ _ _ _ _ _ _ _ hst hW (hB.up (by omega) (by omega))
  refine pC Tryz.func50 hcon ?_
  rintro e w ⟨err, eb', D', E', L', rfl, hst', hr', her⟩
  refine ⟨_, rfl, ?_⟩
  replace hr := hr.trans hr'
  replace hA8 := hA8.rel hr'
  replace hgs6 := hr'.mem hgs6
  replace hge7 := hr'.mem hge7
  clear hst hr' hcon; have hst := hst'; clear hst'
  rcases her with ⟨hcf, rfl⟩ | ⟨fx, hcf, hflt⟩
  ·
   have hc2 := ite_none hcf
   replace hst : ST TY 5 wb w g ((X.drop p)) ((comma (X.drop p) (tkQ 0 5 (X.drop p) 0)).1) 0 0 false line eb' ((0 + 8000)) D' E' L' := by rw [hc2] at hst; exact hst
   refine pM 1 rfl (pL (pT (pS (pG (pM 1 rfl (pP (p_nilnilN mi51 rfl) rfl (pL (pT (zf (pK (pT (pS (pG ?_)))))))))))))
   obtain ⟨v, cm, M, hD, hV, heb, H⟩ := id hst
   obtain ⟨rd, A, l, c, r0, mb, mr, hDe, hbuf, hrd, hr0, hvX, hdr, hsz, hpX⟩ := id hD
   rw [hDe] at H
   replace H := dc.open_.1 H
   clear hst hD
   refine pM 2 rfl (pA fa58_5 rfl rfl rfl (pE H rfl rfl rfl .here (by first | decide | simp [Value.cells]) sz54 ?_));clear H;intro w H
   refine pL ?_
   obtain ⟨D', hst', hr'⟩ : ∃ D'', ST TY 5 wb _ g ((X.drop p)) ((comma (X.drop p) (tkQ 0 5 (X.drop p) 0)).1) 0 1 false line eb' ((0 + 8000)) D'' E' L' ∧ Rel D' E' L' eb' D'' E' L' eb' := ⟨_, ⟨v, cm, M, ⟨rd, A, l, c, r0, mb, mr, rfl, hbuf, hrd, hr0, hvX, hdr, hsz, hpX⟩, hV, heb, dc.open_.2 H⟩, by rw [hDe]; exact (Rel.refl _ _ _ _).head rfl⟩
   clear H hbuf hrd hr0 hvX hdr hsz hV heb hpX hDe; have hcon := hst'; have hst := hst'
   replace hr := hr.trans hr'
   replace hA8 := hA8.rel hr'
   replace hgs6 := hr'.mem hgs6
   replace hge7 := hr'.mem hge7
   clear hst hr' hcon; have hst := hst'; clear hst'
   refine pT (pS (pG (pM 3 rfl (pL (pT (pZ ?_))))))
   have hR : nameP (X.drop p) line = ⟨(tkT 0 5 (X.drop p) 0), none, (comma (X.drop p) (tkQ 0 5 (X.drop p) 0)).1, 1, line⟩ := (if_neg (tru_ne hvA8)).trans ((if_neg (fun h => c12 (by rw [h]; rfl))).trans ((if_neg c20).trans (if_neg (by rw [hc2]; decide))))
   intro a S
   rw [hR]
   exact r_ret2 S rfl rfl rfl ⟨_, _, eb', D', E', L', rfl, hst.le 0 (Nat.zero_le _), hl.trans hr.rl, ⟨.inl ⟨rfl, rfl⟩, fun _ => ⟨sl_ne hA8 hcA8, fun h => c12 (by have h' : (tkT 0 5 (X.drop p) 0) = [] := h; rw [h']; rfl)⟩⟩⟩
  obtain ⟨hc2, rfl⟩ := ite_some hcf
  obtain ⟨gf, gn', rfl, hf1, hf2⟩ := id hflt
  replace hst : ST TY 5 wb w g ((X.drop p)) ((comma (X.drop p) (tkQ 0 5 (X.drop p) 0)).1) 0 ((fsec 0)) false line eb' ((0 + 8000)) D' E' L' := by rw [hc2] at hst; exact hst
  refine pM 1 rfl (pL (pT (pS (pG (pM 1 rfl (pP (p_ifnilN mi51 rfl rfl) rfl (pL (pT (zt (pS (pG (pM 3 rfl (pL (pT (pZ (pU ?_))))))))))))))))
  have hR : nameP (X.drop p) line = ⟨[], some (flt (X.drop p) (comma (X.drop p) (tkQ 0 5 (X.drop p) 0)).1 (comma (X.drop p) (tkQ 0 5 (X.drop p) 0)).1 line), (comma (X.drop p) (tkQ 0 5 (X.drop p) 0)).1, 4, line⟩ := (if_neg (tru_ne hvA8)).trans ((if_neg (fun h => c12 (by rw [h]; rfl))).trans ((if_neg c20).trans (if_pos hc2)))
  intro a S
  rw [hR]
  exact r_ret2 S rfl rfl rfl ⟨_, _, eb', D', E', L', rfl, hst.le 0 (Nat.zero_le _), hl.trans hr.rl, ⟨.inr ⟨_, rfl, hflt⟩, fun h => by cases h⟩⟩
 replace hst : ST TY 5 wb w g ((X.drop p)) ((tkQ 0 5 (X.drop p) 0)) ((tkQ 0 5 (X.drop p) 0)) ((fsec 0)) false line eb' ((0 + 8000)) D' E' L' := hst
 replace hflt : FaultAt 104 101 118 wb.heap.size L' err (flt (X.drop p) 0 (tkQ 0 5 (X.drop p) 0) line) := hflt
 obtain ⟨gf, gn', rfl, hf1, hf2⟩ := id hflt
 refine pM 7 rfl (pL (pT (pS (pS (pG (pM 1 rfl (pP (p_ifnilN mi51 rfl rfl) rfl (pL (pT (zt (pS (pG (pM 3 rfl (pL (pT (pZ (pU ?_)))))))))))))))))
 have hR : nameP (X.drop p) line = ⟨[], some (flt (X.drop p) 0 (tkQ 0 5 (X.drop p) 0) line), (tkQ 0 5 (X.drop p) 0), 4, line⟩ := if_pos hvA8
 intro a S
 rw [hR]
 exact r_ret2 S rfl rfl rfl ⟨_, _, eb', D', E', L', rfl, hst.le 0 (Nat.zero_le _), hl.trans hr.rl, ⟨.inr ⟨_, rfl, hflt⟩, fun h => by cases h⟩⟩
end hh
end Go.Proofs.YtbahngfpadjbhaaGreatDoor.dec
end
