/- Part of the proof that FnDecodeCRLF answers true at every text, in every world that its card's statement admits; no condition beyond those. -/
import Derived.Test.YtbahngfpadjbhaaGreatDoorR12
import Derived.Test.YtbahngfpadjbhaaGreatDoorR05
import Derived.Test.YtbahngfpadjbhaaGreatDoorR04
set_option linter.unusedVariables false
set_option linter.unusedSimpArgs false
section
namespace Go.Proofs.YtbahngfpadjbhaaGreatDoor.dec
open Go.Proofs.YtbahngfpadjbhaaGreatDoor.fx
open Go.RowKit Go.Proofs.HHW Go.Proofs.YtbahngfpadjbhaaGreatDoorW.PrintWords Go.Proofs.YtbahngfpadjbhaaGreatDoor.dt
namespace hj
set_option maxHeartbeats 1000000 in
theorem timeN (wb w0 : World) (g : Nat) (X : List Int) (p V : Nat) (line : Nat) (eb : Value) (K : Nat) (D E L : dc.Bk) (hst : ST TY 5 wb w0 g X p V 5 false line eb K D E L)  : Calls Tryz.prog 27 #[.pointer (some ⟨g, 0, none⟩)] w0 fun e w' => ∃ (eb' : Value) (D' E' L' : dc.Bk), e = .returned (.tuple #[.slice none 0 0, .nilIface]) ∧ ST TY 5 wb w' g X p V 5 false line eb' K D' E' L' ∧ Rel D E L eb D' E' L' eb' := by
 obtain ⟨eb', D', E', L', hst, hr⟩ : ∃ (eb' : Value) (D' E' L' : dc.Bk), ST TY 5 wb w0 g X p V 5 false line eb' K D' E' L' ∧ Rel D E L eb D' E' L' eb' := ⟨eb, D, E, L, hst, Rel.refl _ _ _ _⟩
 refine c_enter (args := [.pointer (some ⟨g, 0, none⟩)]) (k := 88) Tryz.func27 rfl rfl rfl ?_
 refine pS (pG (pM 2 rfl (pL (pT (pS (pS (pG (pM 1 rfl ?_))))))))
 have hcon := dec.hf.secS _ _ _ _ _ _ _ _ _ _ _ _ _ _ hst 3 (by decide)
 rw [show decide ((5 : Int) = 3) = false from rfl] at hcon
 refine pC Tryz.func20 hcon ?_
 rintro e w ⟨eb', D', E', L', rfl, hst', hr'⟩
 refine ⟨_, rfl, ?_⟩
 replace hr := hr.trans hr'
 clear hst hr' hcon; have hst := hst'; clear hst'
 refine pM 5 rfl (pL (pT (pS (pG (pM 1 rfl (pP (p_nilnilN mi51 rfl) rfl (pL (pT (zf (pS (pG (pM 1 rfl (pP (p_not rfl) rfl (pL (pT (zt (pS (pG (pM 2 rfl (pL (pT (pZ (pU ?_)))))))))))))))))))))));intro a S
 exact r_ret2 S rfl rfl rfl ⟨eb', D', E', L', rfl, hst, hr⟩
set_option maxHeartbeats 1000000 in
theorem timeS (wb w0 : World) (g : Nat) (X : List Int) (p V : Nat) (line : Nat) (eb : Value) (K : Nat) (D E L : dc.Bk) (hst : ST TY 5 wb w0 g X p V 3 false line eb K D E L) (hW : Wb 118 1 2 3 0 wb) (hB : Bd X line K) (hl5 : line ≤ 50000000) (hK5 : K ≤ 70000000) : Calls Tryz.prog 27 #[.pointer (some ⟨g, 0, none⟩)] w0 fun e w' => ∃ (v err : Value) (eb' : Value) (D' E' L' : dc.Bk), e = .returned (.tuple #[v, err]) ∧ ST TY 5 wb w' g X ((timeP X p line).p) 0 ((timeP X p line).sec) false ((timeP X p line).line) eb' K D' E' L' ∧ Rel D E L eb D' E' L' eb' ∧ TimeR ⟨104, 101, 118⟩ wb.heap.size D' E' L' eb' (timeP X p line) v err := by
 obtain ⟨eb', D', E', L', hst, hr⟩ : ∃ (eb' : Value) (D' E' L' : dc.Bk), ST TY 5 wb w0 g X p V 3 false line eb' K D' E' L' ∧ Rel D E L eb D' E' L' eb' := ⟨eb, D, E, L, hst, Rel.refl _ _ _ _⟩
 have hpX0 := hst.pX
 refine c_enter (args := [.pointer (some ⟨g, 0, none⟩)]) (k := 88) Tryz.func27 rfl rfl rfl ?_
 refine pS (pG (pM 2 rfl (pL (pT (pS (pS (pG (pM 1 rfl ?_))))))))
 have hcon := dec.hf.secS _ _ _ _ _ _ _ _ _ _ _ _ _ _ hst 3 (by decide)
 rw [show decide ((3 : Int) = 3) = true from rfl] at hcon
 refine pC Tryz.func20 hcon ?_
 rintro e w ⟨eb', D', E', L', rfl, hst', hr'⟩
 refine ⟨_, rfl, ?_⟩
 replace hr := hr.trans hr'
 clear hst hr' hcon; have hst := hst'; clear hst'
 refine pM 5 rfl (pL (pT (pS (pG (pM 1 rfl (pP (p_nilnilN mi51 rfl) rfl (pL (pT (zf (pS (pG (pM 1 rfl (pP (p_not rfl) rfl (pL (pT (zf (pK (pT (pS ?_)))))))))))))))))))
 obtain ⟨v, cm, M, hD, hV, heb, H⟩ := id hst
 obtain ⟨rd, A, l, c, r0, mb, mr, hDe, hbuf, hrd, hr0, hvX, hdr, hsz, hpX⟩ := id hD
 rw [hDe] at H
 replace H := dc.open_.1 H
 clear hst hD
 intro a S
 refine d_start (id := 6) [] 10 (bA 10 0) H rfl rfl rfl (fun w H => ?_)
 revert a;refine qM [0,1,4,5] rfl (qA 2 fa58_3 rfl rfl rfl rfl (qE 3 H rfl rfl rfl m0 rfl ag3 rfl (qA 6 fa58_2 rfl rfl rfl rfl (qE 7 H rfl rfl rfl m0 rfl ag3 rfl (qP 8 rfl (p_sub (r := ((p : Nat) : Int)) rfl rfl ((IntWalk.i64_in _ (by omega)).trans (by omega))) rfl (qM [9] rfl (qD ?_)))))))
 obtain ⟨D', hst', hr'⟩ : ∃ D'', ST TY 5 wb _ g X p V 3 false line eb' K D'' E' L' ∧ Rel D' E' L' eb' D'' E' L' eb' := ⟨_, ⟨v, cm, M, ⟨rd, A, l, c, r0, mb, mr, rfl, hbuf, hrd, hr0, hvX, hdr, hsz, hpX⟩, hV, heb, dc.open_.2 H⟩, by rw [hDe]; exact (Rel.refl _ _ _ _).head rfl⟩
 clear H hbuf hrd hr0 hvX hdr hsz hV heb hpX hDe; have hcon := hst'; have hst := hst'
 replace hr := hr.trans hr'
 clear hst hr' hcon; have hst := hst'; clear hst'
 refine pT (pS (pG (pM 1 rfl ?_)))
 have hcon := dec.hb.s10 _ _ _ _ _ _ _ _ _ _ _ _ _ _ hst
 refine pC Tryz.func63 hcon ?_
 rintro e w ⟨gs6, eb', D', E', L', rfl, hst', hr', hgs6⟩
 refine ⟨_, rfl, ?_⟩
 replace hr := hr.trans hr'
 clear hst hr' hcon; have hst := hst'; clear hst'
 have hcon := dec.hb.takS _ _ _ _ _ _ _ _ _ _ _ _ _ _ hst hW (hB) gs6 10 hgs6
 refine pC Tryz.func37 hcon ?_
 rintro e w ⟨A7, cA7, eb', D', E', L', rfl, hst', hr', hA7, hcA7⟩
 refine ⟨_, rfl, ?_⟩
 replace hr := hr.trans hr'
 replace hgs6 := hr'.mem hgs6
 clear hst hr' hcon; have hst := hst'; clear hst'
 have hgA7 := run_ge 10 X p
 refine pM 1 rfl (pL (pT (pS (pS (pG (pM 1 rfl (pP (p_len Tryz.underlying23 rfl) rfl (pP (p_eql rfl rfl) rfl (pL (pT (zc rfl (fun bc9 => ?_) (fun bc9 => ?_))))))))))))
 ·
  have c9 := eq_of_beq bc9
  have hgp := run_ge 10 X p
  have hlp := run_le (k := 10) hpX0
  have hln : ((X.take (run 10 X p)).drop p).length = (run 10 X p) - p := by rw [List.length_drop, List.length_take]; omega
  have hz : (run 10 X p) = p := by omega
  refine pS (pG ?_)
  obtain ⟨v, cm, M, hD, hV, heb, H⟩ := id hst
  obtain ⟨rd, A, l, c, r0, mb, mr, hDe, hbuf, hrd, hr0, hvX, hdr, hsz, hpX⟩ := id hD
  rw [hDe] at H
  replace H := dc.open_.1 H
  clear hst hD
  refine pM 2 rfl (pA fa58_5 rfl rfl rfl (pE H rfl rfl rfl .here (by first | decide | simp [Value.cells]) sz54 ?_));clear H;intro w H
  refine pL ?_
  obtain ⟨D', hst', hr'⟩ : ∃ D'', ST TY 5 wb _ g X ((run 10 X p)) ((min ((run 10 X p) + 1) X.length)) 5 false line eb' K D'' E' L' ∧ Rel D' E' L' eb' D'' E' L' eb' := ⟨_, ⟨v, cm, M, ⟨rd, A, l, c, r0, mb, mr, rfl, hbuf, hrd, hr0, hvX, hdr, hsz, hpX⟩, hV, heb, dc.open_.2 H⟩, by rw [hDe]; exact (Rel.refl _ _ _ _).head rfl⟩
  clear H hbuf hrd hr0 hvX hdr hsz hV heb hpX hDe; have hcon := hst'; have hst := hst'
  replace hr := hr.trans hr'
  replace hA7 := hA7.rel hr'
  replace hgs6 := hr'.mem hgs6
  clear hst hr' hcon; have hst := hst'; clear hst'
  refine pT (pG (pM 1 rfl (pL (pT (pS (pS (pG (pM 1 rfl ?_))))))))
  have hcon := dec.hb.ensS _ _ _ _ _ _ _ _ _ _ _ _ _ _ hst hW
  refine pC Tryz.func22 hcon ?_
  rintro e w ⟨eb', D', E', L', rfl, hst', hr'⟩
  refine ⟨_, rfl, ?_⟩
  replace hr := hr.trans hr'
  replace hA7 := hA7.rel hr'
  replace hgs6 := hr'.mem hgs6
  clear hst hr' hcon; have hst := hst'; clear hst'
  refine pP (p_not rfl) rfl (pL (pT (zc rfl (fun bc12 => ?_) (fun bc12 => ?_))))
  ·
   have c12 := not_eq_true_ bc12
   have c12 := of_decide_eq_false c12
   refine pS (pG ?_)
   obtain ⟨v, cm, M, hD, hV, heb, H⟩ := id hst
   obtain ⟨rd, A, l, c, r0, mb, mr, hDe, hbuf, hrd, hr0, hvX, hdr, hsz, hpX⟩ := id hD
   rw [hDe] at H
   replace H := dc.open_.1 H
   clear hst hD
   refine pM 2 rfl (pA fa58_5 rfl rfl rfl (pE H rfl rfl rfl .here (by first | decide | simp [Value.cells]) sz54 ?_));clear H;intro w H
   refine pL ?_
   obtain ⟨D', hst', hr'⟩ : ∃ D'', ST TY 5 wb _ g X ((run 10 X p)) ((min ((run 10 X p) + 1) X.length)) 5 false line eb' K D'' E' L' ∧ Rel D' E' L' eb' D'' E' L' eb' := ⟨_, ⟨v, cm, M, ⟨rd, A, l, c, r0, mb, mr, rfl, hbuf, hrd, hr0, hvX, hdr, hsz, hpX⟩, hV, heb, dc.open_.2 H⟩, by rw [hDe]; exact (Rel.refl _ _ _ _).head rfl⟩
   clear H hbuf hrd hr0 hvX hdr hsz hV heb hpX hDe; have hcon := hst'; have hst := hst'
   replace hr := hr.trans hr'
   replace hA7 := hA7.rel hr'
   replace hgs6 := hr'.mem hgs6
   clear hst hr' hcon; have hst := hst'; clear hst'
   refine pT (pS (pG (pM 3 rfl (pL (pT (pZ (pU ?_)))))))
   have hR : timeP X p line = ⟨((X.take (run 10 X p)).drop p), none, (run 10 X p), 5, line⟩ := (if_pos (by omega))
   intro a S
   rw [hR]
   exact r_ret2 S rfl rfl rfl ⟨_, _, eb', D', E', L', rfl, hst.le 0 (Nat.zero_le _), hr, ⟨.inl ⟨rfl, rfl⟩, fun _ => .inl ⟨List.length_eq_zero_iff.1 (show ((X.take (run 10 X p)).drop p).length = 0 by omega), rfl⟩⟩⟩
  have c12 := not_eq_false_ bc12
  have c12 := of_decide_eq_true c12
  refine pK (pT (pS (pS (pG ?_))))
  have hcon := dec.hb.s1 _ _ _ _ _ _ _ _ _ _ _ _ _ _ hst
  refine pC Tryz.func62 hcon ?_
  rintro e w ⟨gs13, eb', D', E', L', rfl, hst', hr', hgs13⟩
  refine ⟨_, rfl, ?_⟩
  replace hr := hr.trans hr'
  replace hA7 := hA7.rel hr'
  replace hgs6 := hr'.mem hgs6
  clear hst hr' hcon; have hst := hst'; clear hst'
  refine pM 1 rfl ?_
  have hpX := hst.pX
  have hcon := dec.hb.atS _ _ _ _ _ _ _ _ _ _ _ _ _ _ hst (by omega)
  refine pC Tryz.func39 hcon ?_
  rintro e w ⟨eb', D', E', L', rfl, hst', hr'⟩
  refine ⟨_, rfl, ?_⟩
  replace hr := hr.trans hr'
  replace hA7 := hA7.rel hr'
  replace hgs6 := hr'.mem hgs6
  replace hgs13 := hr'.mem hgs13
  clear hst hr' hcon; have hst := hst'; clear hst'
  have hcon := dec.hb.getS _ _ _ _ _ _ _ _ _ _ _ _ _ _ hst gs13 1 (X.getD (run 10 X p) 0) (at_by hB.by_ (run 10 X p)) hgs13
  refine pC Tryz.func52 hcon ?_
  rintro e w ⟨eb', D', E', L', rfl, hst', hr'⟩
  refine ⟨_, rfl, ?_⟩
  replace hr := hr.trans hr'
  replace hA7 := hA7.rel hr'
  replace hgs6 := hr'.mem hgs6
  replace hgs13 := hr'.mem hgs13
  clear hst hr' hcon; have hst := hst'; clear hst'
  refine pP (p_not rfl) rfl (pL (pT (zc rfl (fun bc16 => ?_) (fun bc16 => ?_))))
  ·
   have c16 := not_eq_true_ bc16
   refine pS (pG (pM 1 rfl ?_))
   have hcon := dec.hb.s12 _ _ _ _ _ _ _ _ _ _ _ _ _ _ hst
   refine pC Tryz.func64 hcon ?_
   rintro e w ⟨gs17, eb', D', E', L', rfl, hst', hr', hgs17⟩
   refine ⟨_, rfl, ?_⟩
   replace hr := hr.trans hr'
   replace hA7 := hA7.rel hr'
   replace hgs6 := hr'.mem hgs6
   replace hgs13 := hr'.mem hgs13
   clear hst hr' hcon; have hst := hst'; clear hst'
   have hcon := dec.hb.takS _ _ _ _ _ _ _ _ _ _ _ _ _ _ hst hW (hB) gs17 12 hgs17
   refine pC Tryz.func37 hcon ?_
   rintro e w ⟨A18, cA18, eb', D', E', L', rfl, hst', hr', hA18, hcA18⟩
   refine ⟨_, rfl, ?_⟩
   replace hr := hr.trans hr'
   replace hA7 := hA7.rel hr'
   replace hgs6 := hr'.mem hgs6
   replace hgs13 := hr'.mem hgs13
   replace hgs17 := hr'.mem hgs17
   clear hst hr' hcon; have hst := hst'; clear hst'
   have hgA18 := run_ge 12 X (run 10 X p)
   refine pL (pT (pS (pG (pM 2 rfl ?_))))
   have hcon := dec.hb.errS _ _ _ _ _ _ _ _ _ _ _ _ _ _ hst ⟨#[105, 110, 118, 97, 108, 105, 100, 32, 116, 105, 109, 101, 115, 116, 97, 109, 112, 32, 40, 46, 46, 41]⟩
   refine pC Tryz.func49 hcon ?_
   rintro e w ⟨gn19, eb', D', E', L', rfl, hst', hr', hgn19, mgn19⟩
   refine ⟨_, rfl, ?_⟩
   replace hr := hr.trans hr'
   replace hA7 := hA7.rel hr'
   replace hA18 := hA18.rel hr'
   replace hgs6 := hr'.mem hgs6
   replace hgs13 := hr'.mem hgs13
   replace hgs17 := hr'.mem hgs17
   clear hst hr' hcon; have hst := hst'; clear hst'
   have hpX := hst.pX
   have hcon := dec.hb.synS _ _ _ _ _ _ _ _ _ _ _ _ _ _ hst (hB) p gn19 (by omega) (by omega) hgn19 ⟨_, _, mgn19⟩
   refine pC Tryz.func48 hcon ?_
   rintro e w ⟨err, eb', D', E', L', rfl, hst', hr', hflt⟩
   refine ⟨_, rfl, ?_⟩
   replace hr := hr.trans hr'
   replace hA7 := hA7.rel hr'
   replace hA18 := hA18.rel hr'
   replace hgs6 := hr'.mem hgs6
   replace hgs13 := hr'.mem hgs13
   replace hgs17 := hr'.mem hgs17
   replace mgn19 := hr'.mem mgn19
   clear hst hr' hcon; have hst := hst'; clear hst'
   refine pM 2 rfl (pL (pT (pZ (pU ?_))))
   have hR : timeP X p line = ⟨[], some (flt X p (run 12 X (run 10 X p)) line), (run 12 X (run 10 X p)), (if (run 10 X p) = p then 5 else 4), line⟩ := (if_neg (by omega)).trans ((if_pos c16))
   rw [if_pos hz] at hR
   intro a S
   rw [hR]
   exact r_ret2 S rfl rfl rfl ⟨_, _, eb', D', E', L', rfl, hst.le 0 (Nat.zero_le _), hr, ⟨.inr ⟨_, rfl, hflt⟩, fun h => by cases h⟩⟩
  have c16 := not_eq_false_ bc16
  have hlq := run_le (k := 0) hlp
  have hgq := run_ge 0 X (run 10 X p)
  refine pK (pT (pS (pG (pM 1 rfl ?_))))
  have hcon := dec.hb.s0 _ _ _ _ _ _ _ _ _ _ _ _ _ _ hst
  refine pC Tryz.func38 hcon ?_
  rintro e w ⟨gs20, eb', D', E', L', rfl, hst', hr', hgs20⟩
  refine ⟨_, rfl, ?_⟩
  replace hr := hr.trans hr'
  replace hA7 := hA7.rel hr'
  replace hgs6 := hr'.mem hgs6
  replace hgs13 := hr'.mem hgs13
  clear hst hr' hcon; have hst := hst'; clear hst'
  have hcon := dec.hb.takS _ _ _ _ _ _ _ _ _ _ _ _ _ _ hst hW (hB) gs20 0 hgs20
  refine pC Tryz.func37 hcon ?_
  rintro e w ⟨A21, cA21, eb', D', E', L', rfl, hst', hr', hA21, hcA21⟩
  refine ⟨_, rfl, ?_⟩
  replace hr := hr.trans hr'
  replace hA7 := hA7.rel hr'
  replace hgs6 := hr'.mem hgs6
  replace hgs13 := hr'.mem hgs13
  replace hgs20 := hr'.mem hgs20
  clear hst hr' hcon; have hst := hst'; clear hst'
  have hgA21 := run_ge 0 X (run 10 X p)
  refine pL (pT (pS (pS (pG (pM 1 rfl ?_)))))
  have hcon := dec.hb.ensS _ _ _ _ _ _ _ _ _ _ _ _ _ _ hst hW
  refine pC Tryz.func22 hcon ?_
  rintro e w ⟨eb', D', E', L', rfl, hst', hr'⟩
  refine ⟨_, rfl, ?_⟩
  replace hr := hr.trans hr'
  replace hA7 := hA7.rel hr'
  replace hA21 := hA21.rel hr'
  replace hgs6 := hr'.mem hgs6
  replace hgs13 := hr'.mem hgs13
  replace hgs20 := hr'.mem hgs20
  clear hst hr' hcon; have hst := hst'; clear hst'
  refine pP (p_not rfl) rfl (pL (pT (zc rfl (fun bc24 => ?_) (fun bc24 => ?_))))
  ·
   have c24 := not_eq_true_ bc24
   have c24 := of_decide_eq_false c24
   refine pS (pG ?_)
   obtain ⟨v, cm, M, hD, hV, heb, H⟩ := id hst
   obtain ⟨rd, A, l, c, r0, mb, mr, hDe, hbuf, hrd, hr0, hvX, hdr, hsz, hpX⟩ := id hD
   rw [hDe] at H
   replace H := dc.open_.1 H
   clear hst hD
   refine pM 2 rfl (pA fa58_5 rfl rfl rfl (pE H rfl rfl rfl .here (by first | decide | simp [Value.cells]) sz54 ?_));clear H;intro w H
   refine pL ?_
   obtain ⟨D', hst', hr'⟩ : ∃ D'', ST TY 5 wb _ g X ((run 0 X (run 10 X p))) ((min ((run 0 X (run 10 X p)) + 1) X.length)) 5 false line eb' K D'' E' L' ∧ Rel D' E' L' eb' D'' E' L' eb' := ⟨_, ⟨v, cm, M, ⟨rd, A, l, c, r0, mb, mr, rfl, hbuf, hrd, hr0, hvX, hdr, hsz, hpX⟩, hV, heb, dc.open_.2 H⟩, by rw [hDe]; exact (Rel.refl _ _ _ _).head rfl⟩
   clear H hbuf hrd hr0 hvX hdr hsz hV heb hpX hDe; have hcon := hst'; have hst := hst'
   replace hr := hr.trans hr'
   replace hA7 := hA7.rel hr'
   replace hA21 := hA21.rel hr'
   replace hgs6 := hr'.mem hgs6
   replace hgs13 := hr'.mem hgs13
   replace hgs20 := hr'.mem hgs20
   clear hst hr' hcon; have hst := hst'; clear hst'
   refine pT (pS (pG (pM 3 rfl (pL (pT (pZ (pU ?_)))))))
   have hR : timeP X p line = ⟨((X.take (run 10 X p)).drop p), none, (run 0 X (run 10 X p)), 5, line⟩ := (if_neg (by omega)).trans ((if_neg (by rw [c16]; decide)).trans ((if_pos (by rw [eol_end (by omega)])))) |>.trans (by rw [eol_end (by omega)]; rfl)
   intro a S
   rw [hR]
   exact r_ret2 S rfl rfl rfl ⟨_, _, eb', D', E', L', rfl, hst.le 0 (Nat.zero_le _), hr, ⟨.inl ⟨rfl, rfl⟩, fun _ => .inl ⟨List.length_eq_zero_iff.1 (show ((X.take (run 10 X p)).drop p).length = 0 by omega), rfl⟩⟩⟩
  have c24 := not_eq_false_ bc24
  have c24 := of_decide_eq_true c24
  refine pK (pT (pS (pS (pG (pM 1 rfl ?_)))))
  have hcon := dec.hb.eolS _ _ _ _ _ _ _ _ _ _ _ _ _ _ hst hW (hB)
  refine pC Tryz.func41 hcon ?_
  rintro e w ⟨eb', D', E', L', rfl, hst', hr'⟩
  refine ⟨_, rfl, ?_⟩
  replace hr := hr.trans hr'
  replace hA7 := hA7.rel hr'
  replace hA21 := hA21.rel hr'
  replace hgs6 := hr'.mem hgs6
  replace hgs13 := hr'.mem hgs13
  replace hgs20 := hr'.mem hgs20
  clear hst hr' hcon; have hst := hst'; clear hst'
  refine pP (p_not rfl) rfl (pL (pT (zc rfl (fun bc27 => ?_) (fun bc27 => ?_))))
  ·
   have c27 := not_eq_true_ bc27
   obtain ⟨hz1, hz2⟩ := eol_no c27
   rw [hz2, hz1] at hst
   simp only [Nat.add_zero] at hst
   refine pS ?_
   obtain ⟨v, cm, M, hD, hV, heb, H⟩ := id hst
   obtain ⟨rd, A, l, c, r0, mb, mr, hDe, hbuf, hrd, hr0, hvX, hdr, hsz, hpX⟩ := id hD
   rw [hDe] at H
   replace H := dc.open_.1 H
   clear hst hD
   intro a S
   refine d_start (id := 22) [] 10 (bA 10 0) H rfl rfl rfl (fun w H => ?_)
   revert a;refine qM [0,1,4,5] rfl (qA 2 fa58_3 rfl rfl rfl rfl (qE 3 H rfl rfl rfl m0 rfl ag3 rfl (qA 6 fa58_2 rfl rfl rfl rfl (qE 7 H rfl rfl rfl m0 rfl ag3 rfl (qP 8 rfl (p_sub (r := (((run 0 X (run 10 X p)) : Nat) : Int)) rfl rfl ((IntWalk.i64_in _ (by omega)).trans (by omega))) rfl (qM [9] rfl (qD ?_)))))))
   obtain ⟨D', hst', hr'⟩ : ∃ D'', ST TY 5 wb _ g X ((run 0 X (run 10 X p))) 0 5 false line eb' K D'' E' L' ∧ Rel D' E' L' eb' D'' E' L' eb' := ⟨_, ⟨v, cm, M, ⟨rd, A, l, c, r0, mb, mr, rfl, hbuf, hrd, hr0, hvX, hdr, hsz, hpX⟩, hV, heb, dc.open_.2 H⟩, by rw [hDe]; exact (Rel.refl _ _ _ _).head rfl⟩
   clear H hbuf hrd hr0 hvX hdr hsz hV heb hpX hDe; have hcon := hst'; have hst := hst'
   replace hr := hr.trans hr'
   replace hA7 := hA7.rel hr'
   replace hA21 := hA21.rel hr'
   replace hgs6 := hr'.mem hgs6
   replace hgs13 := hr'.mem hgs13
   replace hgs20 := hr'.mem hgs20
   clear hst hr' hcon; have hst := hst'; clear hst'
   refine pT (pS (pG (pM 1 rfl ?_)))
   have hcon := dec.hb.s12 _ _ _ _ _ _ _ _ _ _ _ _ _ _ hst
   refine pC Tryz.func64 hcon ?_
   rintro e w ⟨gs28, eb', D', E', L', rfl, hst', hr', hgs28⟩
   refine ⟨_, rfl, ?_⟩
   replace hr := hr.trans hr'
   replace hA7 := hA7.rel hr'
   replace hA21 := hA21.rel hr'
   replace hgs6 := hr'.mem hgs6
   replace hgs13 := hr'.mem hgs13
   replace hgs20 := hr'.mem hgs20
   clear hst hr' hcon; have hst := hst'; clear hst'
   have hcon := dec.hb.takS _ _ _ _ _ _ _ _ _ _ _ _ _ _ hst hW (hB) gs28 12 hgs28
   refine pC Tryz.func37 hcon ?_
   rintro e w ⟨A29, cA29, eb', D', E', L', rfl, hst', hr', hA29, hcA29⟩
   refine ⟨_, rfl, ?_⟩
   replace hr := hr.trans hr'
   replace hA7 := hA7.rel hr'
   replace hA21 := hA21.rel hr'
   replace hgs6 := hr'.mem hgs6
   replace hgs13 := hr'.mem hgs13
   replace hgs20 := hr'.mem hgs20
   replace hgs28 := hr'.mem hgs28
   clear hst hr' hcon; have hst := hst'; clear hst'
   have hgA29 := run_ge 12 X (run 0 X (run 10 X p))
   refine pL (pT (pS (pG (pM 2 rfl ?_))))
   have hcon := dec.hb.errS _ _ _ _ _ _ _ _ _ _ _ _ _ _ hst ⟨#[117, 110, 101, 120, 112, 101, 99, 116, 101, 100, 32, 116, 101, 120, 116, 32, 97, 102, 116, 101, 114, 32, 116, 105, 109, 101, 115, 116, 97, 109, 112, 32, 40, 46, 46, 41]⟩
   refine pC Tryz.func49 hcon ?_
   rintro e w ⟨gn30, eb', D', E', L', rfl, hst', hr', hgn30, mgn30⟩
   refine ⟨_, rfl, ?_⟩
   replace hr := hr.trans hr'
   replace hA7 := hA7.rel hr'
   replace hA21 := hA21.rel hr'
   replace hA29 := hA29.rel hr'
   replace hgs6 := hr'.mem hgs6
   replace hgs13 := hr'.mem hgs13
   replace hgs20 := hr'.mem hgs20
   replace hgs28 := hr'.mem hgs28
   clear hst hr' hcon; have hst := hst'; clear hst'
   have hpX := hst.pX
   have hcon := dec.hb.synS _ _ _ _ _ _ _ _ _ _ _ _ _ _ hst (hB) (run 0 X (run 10 X p)) gn30 (by omega) (by omega) hgn30 ⟨_, _, mgn30⟩
   refine pC Tryz.func48 hcon ?_
   rintro e w ⟨err, eb', D', E', L', rfl, hst', hr', hflt⟩
   refine ⟨_, rfl, ?_⟩
   replace hr := hr.trans hr'
   replace hA7 := hA7.rel hr'
   replace hA21 := hA21.rel hr'
   replace hA29 := hA29.rel hr'
   replace hgs6 := hr'.mem hgs6
   replace hgs13 := hr'.mem hgs13
   replace hgs20 := hr'.mem hgs20
   replace hgs28 := hr'.mem hgs28
   replace mgn30 := hr'.mem mgn30
   clear hst hr' hcon; have hst := hst'; clear hst'
   refine pM 2 rfl (pL (pT (pZ (pU ?_))))
   have hR : timeP X p line = ⟨[], some (flt X (run 0 X (run 10 X p)) (run 12 X (run 0 X (run 10 X p))) line), (run 12 X (run 0 X (run 10 X p))), (if (run 10 X p) = p then 5 else 4), line⟩ := (if_neg (by omega)).trans ((if_neg (by rw [c16]; decide)).trans ((if_neg (by rw [c27]; decide))))
   rw [if_pos hz] at hR
   intro a S
   rw [hR]
   exact r_ret2 S rfl rfl rfl ⟨_, _, eb', D', E', L', rfl, hst.le 0 (Nat.zero_le _), hr, ⟨.inr ⟨_, rfl, hflt⟩, fun h => by cases h⟩⟩
  have c27 := not_eq_false_ bc27
  refine pK (pT (pS (pG ?_)))
  obtain ⟨v, cm, M, hD, hV, heb, H⟩ := id hst
  obtain ⟨rd, A, l, c, r0, mb, mr, hDe, hbuf, hrd, hr0, hvX, hdr, hsz, hpX⟩ := id hD
  rw [hDe] at H
  replace H := dc.open_.1 H
  clear hst hD
  refine pM 2 rfl (pA fa58_5 rfl rfl rfl (pE H rfl rfl rfl .here (by first | decide | simp [Value.cells]) sz54 ?_));clear H;intro w H
  refine pL ?_
  obtain ⟨D', hst', hr'⟩ : ∃ D'', ST TY 5 wb _ g X (((run 0 X (run 10 X p)) + (dc.eol X (run 0 X (run 10 X p))).2.1)) 0 5 false (((line + (dc.eol X (run 0 X (run 10 X p))).2.2))) eb' K D'' E' L' ∧ Rel D' E' L' eb' D'' E' L' eb' := ⟨_, ⟨v, cm, M, ⟨rd, A, l, c, r0, mb, mr, rfl, hbuf, hrd, hr0, hvX, hdr, hsz, hpX⟩, hV, heb, dc.open_.2 H⟩, by rw [hDe]; exact (Rel.refl _ _ _ _).head rfl⟩
  clear H hbuf hrd hr0 hvX hdr hsz hV heb hpX hDe; have hcon := hst'; have hst := hst'
  replace hr := hr.trans hr'
  replace hA7 := hA7.rel hr'
  replace hA21 := hA21.rel hr'
  replace hgs6 := hr'.mem hgs6
  replace hgs13 := hr'.mem hgs13
  replace hgs20 := hr'.mem hgs20
  clear hst hr' hcon; have hst := hst'; clear hst'
  refine pT (pS (pG (pM 3 rfl (pL (pT (pZ ?_))))))
  have hR : timeP X p line = ⟨((X.take (run 10 X p)).drop p), none, ((run 0 X (run 10 X p)) + (dc.eol X (run 0 X (run 10 X p))).2.1), 5, ((line + (dc.eol X (run 0 X (run 10 X p))).2.2))⟩ := (if_neg (by omega)).trans ((if_neg (by rw [c16]; decide)).trans ((if_pos c27)))
  intro a S
  rw [hR]
  exact r_ret2 S rfl rfl rfl ⟨_, _, eb', D', E', L', rfl, hst.le 0 (Nat.zero_le _), hr, ⟨.inl ⟨rfl, rfl⟩, fun _ => .inl ⟨List.length_eq_zero_iff.1 (show ((X.take (run 10 X p)).drop p).length = 0 by omega), rfl⟩⟩⟩
 have c9 := ne_of_beq_false bc9
 have hgp := run_ge 10 X p
 have hlp := run_le (k := 10) hpX0
 have hln : ((X.take (run 10 X p)).drop p).length = (run 10 X p) - p := by rw [List.length_drop, List.length_take]; omega
 have hz : ¬ (run 10 X p) = p := by omega
 refine pK (pT (pS (pS (pG (pM 1 rfl ?_)))))
 have hcon := dec.hb.ensS _ _ _ _ _ _ _ _ _ _ _ _ _ _ hst hW
 refine pC Tryz.func22 hcon ?_
 rintro e w ⟨eb', D', E', L', rfl, hst', hr'⟩
 refine ⟨_, rfl, ?_⟩
 replace hr := hr.trans hr'
 replace hA7 := hA7.rel hr'
 replace hgs6 := hr'.mem hgs6
 clear hst hr' hcon; have hst := hst'; clear hst'
 refine pP (p_not rfl) rfl (pL (pT (zc rfl (fun bc33 => ?_) (fun bc33 => ?_))))
 ·
  have c33 := not_eq_true_ bc33
  have c33 := of_decide_eq_false c33
  refine pS (pG ?_)
  obtain ⟨v, cm, M, hD, hV, heb, H⟩ := id hst
  obtain ⟨rd, A, l, c, r0, mb, mr, hDe, hbuf, hrd, hr0, hvX, hdr, hsz, hpX⟩ := id hD
  rw [hDe] at H
  replace H := dc.open_.1 H
  clear hst hD
  refine pM 2 rfl (pA fa58_5 rfl rfl rfl (pE H rfl rfl rfl .here (by first | decide | simp [Value.cells]) sz54 ?_));clear H;intro w H
  refine pL ?_
  obtain ⟨D', hst', hr'⟩ : ∃ D'', ST TY 5 wb _ g X ((run 10 X p)) ((min ((run 10 X p) + 1) X.length)) 5 false line eb' K D'' E' L' ∧ Rel D' E' L' eb' D'' E' L' eb' := ⟨_, ⟨v, cm, M, ⟨rd, A, l, c, r0, mb, mr, rfl, hbuf, hrd, hr0, hvX, hdr, hsz, hpX⟩, hV, heb, dc.open_.2 H⟩, by rw [hDe]; exact (Rel.refl _ _ _ _).head rfl⟩
  clear H hbuf hrd hr0 hvX hdr hsz hV heb hpX hDe; have hcon := hst'; have hst := hst'
  replace hr := hr.trans hr'
  replace hA7 := hA7.rel hr'
  replace hgs6 := hr'.mem hgs6
  clear hst hr' hcon; have hst := hst'; clear hst'
  refine pT (pS (pG (pM 3 rfl (pL (pT (pZ (pU ?_)))))))
  have hR : timeP X p line = ⟨((X.take (run 10 X p)).drop p), none, (run 10 X p), 5, line⟩ := (if_pos (by omega))
  intro a S
  rw [hR]
  exact r_ret2 S rfl rfl rfl ⟨_, _, eb', D', E', L', rfl, hst.le 0 (Nat.zero_le _), hr, ⟨.inl ⟨rfl, rfl⟩, fun _ => .inr ⟨fun h => c9 (by have h' : ((X.take (run 10 X p)).drop p) = [] := h; rw [h']; rfl), sl_ne hA7 hcA7⟩⟩⟩
 have c33 := not_eq_false_ bc33
 have c33 := of_decide_eq_true c33
 refine pK (pT (pS (pS (pG ?_))))
 have hcon := dec.hb.s1 _ _ _ _ _ _ _ _ _ _ _ _ _ _ hst
 refine pC Tryz.func62 hcon ?_
 rintro e w ⟨gs34, eb', D', E', L', rfl, hst', hr', hgs34⟩
 refine ⟨_, rfl, ?_⟩
 replace hr := hr.trans hr'
 replace hA7 := hA7.rel hr'
 replace hgs6 := hr'.mem hgs6
 clear hst hr' hcon; have hst := hst'; clear hst'
 refine pM 1 rfl ?_
 have hpX := hst.pX
 have hcon := dec.hb.atS _ _ _ _ _ _ _ _ _ _ _ _ _ _ hst (by omega)
 refine pC Tryz.func39 hcon ?_
 rintro e w ⟨eb', D', E', L', rfl, hst', hr'⟩
 refine ⟨_, rfl, ?_⟩
 replace hr := hr.trans hr'
 replace hA7 := hA7.rel hr'
 replace hgs6 := hr'.mem hgs6
 replace hgs34 := hr'.mem hgs34
 clear hst hr' hcon; have hst := hst'; clear hst'
 have hcon := dec.hb.getS _ _ _ _ _ _ _ _ _ _ _ _ _ _ hst gs34 1 (X.getD (run 10 X p) 0) (at_by hB.by_ (run 10 X p)) hgs34
 refine pC Tryz.func52 hcon ?_
 rintro e w ⟨eb', D', E', L', rfl, hst', hr'⟩
 refine ⟨_, rfl, ?_⟩
 replace hr := hr.trans hr'
 replace hA7 := hA7.rel hr'
 replace hgs6 := hr'.mem hgs6
 replace hgs34 := hr'.mem hgs34
 clear hst hr' hcon; have hst := hst'; clear hst'
 refine pP (p_not rfl) rfl (pL (pT (zc rfl (fun bc37 => ?_) (fun bc37 => ?_))))
 ·
  have c37 := not_eq_true_ bc37
  refine pS (pG (pM 1 rfl ?_))
  have hcon := dec.hb.s12 _ _ _ _ _ _ _ _ _ _ _ _ _ _ hst
  refine pC Tryz.func64 hcon ?_
  rintro e w ⟨gs38, eb', D', E', L', rfl, hst', hr', hgs38⟩
  refine ⟨_, rfl, ?_⟩
  replace hr := hr.trans hr'
  replace hA7 := hA7.rel hr'
  replace hgs6 := hr'.mem hgs6
  replace hgs34 := hr'.mem hgs34
  clear hst hr' hcon; have hst := hst'; clear hst'
  have hcon := dec.hb.takS _ _ _ _ _ _ _ _ _ _ _ _ _ _ hst hW (hB) gs38 12 hgs38
  refine pC Tryz.func37 hcon ?_
  rintro e w ⟨A39, cA39, eb', D', E', L', rfl, hst', hr', hA39, hcA39⟩
  refine ⟨_, rfl, ?_⟩
  replace hr := hr.trans hr'
  replace hA7 := hA7.rel hr'
  replace hgs6 := hr'.mem hgs6
  replace hgs34 := hr'.mem hgs34
  replace hgs38 := hr'.mem hgs38
  clear hst hr' hcon; have hst := hst'; clear hst'
  have hgA39 := run_ge 12 X (run 10 X p)
  refine pL (pT (pS (pG (pM 2 rfl ?_))))
  have hcon := dec.hb.errS _ _ _ _ _ _ _ _ _ _ _ _ _ _ hst ⟨#[105, 110, 118, 97, 108, 105, 100, 32, 116, 105, 109, 101, 115, 116, 97, 109, 112, 32, 40, 46, 46, 41]⟩
  refine pC Tryz.func49 hcon ?_
  rintro e w ⟨gn40, eb', D', E', L', rfl, hst', hr', hgn40, mgn40⟩
  refine ⟨_, rfl, ?_⟩
  replace hr := hr.trans hr'
  replace hA7 := hA7.rel hr'
  replace hA39 := hA39.rel hr'
  replace hgs6 := hr'.mem hgs6
  replace hgs34 := hr'.mem hgs34
  replace hgs38 := hr'.mem hgs38
  clear hst hr' hcon; have hst := hst'; clear hst'
  have hpX := hst.pX
  have hcon := dec.hb.synS _ _ _ _ _ _ _ _ _ _ _ _ _ _ hst (hB) p gn40 (by omega) (by omega) hgn40 ⟨_, _, mgn40⟩
  refine pC Tryz.func48 hcon ?_
  rintro e w ⟨err, eb', D', E', L', rfl, hst', hr', hflt⟩
  refine ⟨_, rfl, ?_⟩
  replace hr := hr.trans hr'
  replace hA7 := hA7.rel hr'
  replace hA39 := hA39.rel hr'
  replace hgs6 := hr'.mem hgs6
  replace hgs34 := hr'.mem hgs34
  replace hgs38 := hr'.mem hgs38
  replace mgn40 := hr'.mem mgn40
  clear hst hr' hcon; have hst := hst'; clear hst'
  refine pM 2 rfl (pL (pT (pZ (pU ?_))))
  have hR : timeP X p line = ⟨[], some (flt X p (run 12 X (run 10 X p)) line), (run 12 X (run 10 X p)), (if (run 10 X p) = p then 5 else 4), line⟩ := (if_neg (by omega)).trans ((if_pos c37))
  rw [if_neg hz] at hR
  intro a S
  rw [hR]
  exact r_ret2 S rfl rfl rfl ⟨_, _, eb', D', E', L', rfl, hst.le 0 (Nat.zero_le _), hr, ⟨.inr ⟨_, rfl, hflt⟩, fun h => by cases h⟩⟩
 have c37 := not_eq_false_ bc37
 have hlq := run_le (k := 0) hlp
 have hgq := run_ge 0 X (run 10 X p)
 refine pK (pT (pS (pG (pM 1 rfl ?_))))
 have hcon := dec.hb.s0 _ _ _ _ _ _ _ _ _ _ _ _ _ _ hst
 refine pC Tryz.func38 hcon ?_
 rintro e w ⟨gs41, eb', D', E', L', rfl, hst', hr', hgs41⟩
 refine ⟨_, rfl, ?_⟩
 replace hr := hr.trans hr'
 replace hA7 := hA7.rel hr'
 replace hgs6 := hr'.mem hgs6
 replace hgs34 := hr'.mem hgs34
 clear hst hr' hcon; have hst := hst'; clear hst'
 have hcon := dec.hb.takS _ _ _ _ _ _ _ _ _ _ _ _ _ _ hst hW (hB) gs41 0 hgs41
 refine pC Tryz.func37 hcon ?_
 rintro e w ⟨A42, cA42, eb', D', E', L', rfl, hst', hr', hA42, hcA42⟩
 refine ⟨_, rfl, ?_⟩
 replace hr := hr.trans hr'
 replace hA7 := hA7.rel hr'
 replace hgs6 := hr'.mem hgs6
 replace hgs34 := hr'.mem hgs34
 replace hgs41 := hr'.mem hgs41
 clear hst hr' hcon; have hst := hst'; clear hst'
 have hgA42 := run_ge 0 X (run 10 X p)
 refine pL (pT (pS (pS (pG (pM 1 rfl ?_)))))
 have hcon := dec.hb.ensS _ _ _ _ _ _ _ _ _ _ _ _ _ _ hst hW
 refine pC Tryz.func22 hcon ?_
 rintro e w ⟨eb', D', E', L', rfl, hst', hr'⟩
 refine ⟨_, rfl, ?_⟩
 replace hr := hr.trans hr'
 replace hA7 := hA7.rel hr'
 replace hA42 := hA42.rel hr'
 replace hgs6 := hr'.mem hgs6
 replace hgs34 := hr'.mem hgs34
 replace hgs41 := hr'.mem hgs41
 clear hst hr' hcon; have hst := hst'; clear hst'
 refine pP (p_not rfl) rfl (pL (pT (zc rfl (fun bc45 => ?_) (fun bc45 => ?_))))
 ·
  have c45 := not_eq_true_ bc45
  have c45 := of_decide_eq_false c45
  refine pS (pG ?_)
  obtain ⟨v, cm, M, hD, hV, heb, H⟩ := id hst
  obtain ⟨rd, A, l, c, r0, mb, mr, hDe, hbuf, hrd, hr0, hvX, hdr, hsz, hpX⟩ := id hD
  rw [hDe] at H
  replace H := dc.open_.1 H
  clear hst hD
  refine pM 2 rfl (pA fa58_5 rfl rfl rfl (pE H rfl rfl rfl .here (by first | decide | simp [Value.cells]) sz54 ?_));clear H;intro w H
  refine pL ?_
  obtain ⟨D', hst', hr'⟩ : ∃ D'', ST TY 5 wb _ g X ((run 0 X (run 10 X p))) ((min ((run 0 X (run 10 X p)) + 1) X.length)) 5 false line eb' K D'' E' L' ∧ Rel D' E' L' eb' D'' E' L' eb' := ⟨_, ⟨v, cm, M, ⟨rd, A, l, c, r0, mb, mr, rfl, hbuf, hrd, hr0, hvX, hdr, hsz, hpX⟩, hV, heb, dc.open_.2 H⟩, by rw [hDe]; exact (Rel.refl _ _ _ _).head rfl⟩
  clear H hbuf hrd hr0 hvX hdr hsz hV heb hpX hDe; have hcon := hst'; have hst := hst'
  replace hr := hr.trans hr'
  replace hA7 := hA7.rel hr'
  replace hA42 := hA42.rel hr'
  replace hgs6 := hr'.mem hgs6
  replace hgs34 := hr'.mem hgs34
  replace hgs41 := hr'.mem hgs41
  clear hst hr' hcon; have hst := hst'; clear hst'
  refine pT (pS (pG (pM 3 rfl (pL (pT (pZ (pU ?_)))))))
  have hR : timeP X p line = ⟨((X.take (run 10 X p)).drop p), none, (run 0 X (run 10 X p)), 5, line⟩ := (if_neg (by omega)).trans ((if_neg (by rw [c37]; decide)).trans ((if_pos (by rw [eol_end (by omega)])))) |>.trans (by rw [eol_end (by omega)]; rfl)
  intro a S
  rw [hR]
  exact r_ret2 S rfl rfl rfl ⟨_, _, eb', D', E', L', rfl, hst.le 0 (Nat.zero_le _), hr, ⟨.inl ⟨rfl, rfl⟩, fun _ => .inr ⟨fun h => c9 (by have h' : ((X.take (run 10 X p)).drop p) = [] := h; rw [h']; rfl), sl_ne hA7 hcA7⟩⟩⟩
 have c45 := not_eq_false_ bc45
 have c45 := of_decide_eq_true c45
 refine pK (pT (pS (pS (pG (pM 1 rfl ?_)))))
 have hcon := dec.hb.eolS _ _ _ _ _ _ _ _ _ _ _ _ _ _ hst hW (hB)
 refine pC Tryz.func41 hcon ?_
 rintro e w ⟨eb', D', E', L', rfl, hst', hr'⟩
 refine ⟨_, rfl, ?_⟩
 replace hr := hr.trans hr'
 replace hA7 := hA7.rel hr'
 replace hA42 := hA42.rel hr'
 replace hgs6 := hr'.mem hgs6
 replace hgs34 := hr'.mem hgs34
 replace hgs41 := hr'.mem hgs41
 clear hst hr' hcon; have hst := hst'; clear hst'
 refine pP (p_not rfl) rfl (pL (pT (zc rfl (fun bc48 => ?_) (fun bc48 => ?_))))
 ·
  have c48 := not_eq_true_ bc48
  obtain ⟨hz1, hz2⟩ := eol_no c48
  rw [hz2, hz1] at hst
  simp only [Nat.add_zero] at hst
  refine pS ?_
  obtain ⟨v, cm, M, hD, hV, heb, H⟩ := id hst
  obtain ⟨rd, A, l, c, r0, mb, mr, hDe, hbuf, hrd, hr0, hvX, hdr, hsz, hpX⟩ := id hD
  rw [hDe] at H
  replace H := dc.open_.1 H
  clear hst hD
  intro a S
  refine d_start (id := 22) [] 10 (bA 10 0) H rfl rfl rfl (fun w H => ?_)
  revert a;refine qM [0,1,4,5] rfl (qA 2 fa58_3 rfl rfl rfl rfl (qE 3 H rfl rfl rfl m0 rfl ag3 rfl (qA 6 fa58_2 rfl rfl rfl rfl (qE 7 H rfl rfl rfl m0 rfl ag3 rfl (qP 8 rfl (p_sub (r := (((run 0 X (run 10 X p)) : Nat) : Int)) rfl rfl ((IntWalk.i64_in _ (by omega)).trans (by omega))) rfl (qM [9] rfl (qD ?_)))))))
  obtain ⟨D', hst', hr'⟩ : ∃ D'', ST TY 5 wb _ g X ((run 0 X (run 10 X p))) 0 3 false line eb' K D'' E' L' ∧ Rel D' E' L' eb' D'' E' L' eb' := ⟨_, ⟨v, cm, M, ⟨rd, A, l, c, r0, mb, mr, rfl, hbuf, hrd, hr0, hvX, hdr, hsz, hpX⟩, hV, heb, dc.open_.2 H⟩, by rw [hDe]; exact (Rel.refl _ _ _ _).head rfl⟩
  clear H hbuf hrd hr0 hvX hdr hsz hV heb hpX hDe; have hcon := hst'; have hst := hst'
  replace hr := hr.trans hr'
  replace hA7 := hA7.rel hr'
  replace hA42 := hA42.rel hr'
  replace hgs6 := hr'.mem hgs6
  replace hgs34 := hr'.mem hgs34
  replace hgs41 := hr'.mem hgs41
  clear hst hr' hcon; have hst := hst'; clear hst'
  refine pT (pS (pG (pM 1 rfl ?_)))
  have hcon := dec.hb.s12 _ _ _ _ _ _ _ _ _ _ _ _ _ _ hst
  refine pC Tryz.func64 hcon ?_
  rintro e w ⟨gs49, eb', D', E', L', rfl, hst', hr', hgs49⟩
  refine ⟨_, rfl, ?_⟩
  replace hr := hr.trans hr'
  replace hA7 := hA7.rel hr'
  replace hA42 := hA42.rel hr'
  replace hgs6 := hr'.mem hgs6
  replace hgs34 := hr'.mem hgs34
  replace hgs41 := hr'.mem hgs41
  clear hst hr' hcon; have hst := hst'; clear hst'
  have hcon := dec.hb.takS _ _ _ _ _ _ _ _ _ _ _ _ _ _ hst hW (hB) gs49 12 hgs49
  refine pC Tryz.func37 hcon ?_
  rintro e w ⟨A50, cA50, eb', D', E', L', rfl, hst', hr', hA50, hcA50⟩
  refine ⟨_, rfl, ?_⟩
  replace hr := hr.trans hr'
  replace hA7 := hA7.rel hr'
  replace hA42 := hA42.rel hr'
  replace hgs6 := hr'.mem hgs6
  replace hgs34 := hr'.mem hgs34
  replace hgs41 := hr'.mem hgs41
  replace hgs49 := hr'.mem hgs49
  clear hst hr' hcon; have hst := hst'; clear hst'
  have hgA50 := run_ge 12 X (run 0 X (run 10 X p))
  refine pL (pT (pS (pG (pM 2 rfl ?_))))
  have hcon := dec.hb.errS _ _ _ _ _ _ _ _ _ _ _ _ _ _ hst ⟨#[117, 110, 101, 120, 112, 101, 99, 116, 101, 100, 32, 116, 101, 120, 116, 32, 97, 102, 116, 101, 114, 32, 116, 105, 109, 101, 115, 116, 97, 109, 112, 32, 40, 46, 46, 41]⟩
  refine pC Tryz.func49 hcon ?_
  rintro e w ⟨gn51, eb', D', E', L', rfl, hst', hr', hgn51, mgn51⟩
  refine ⟨_, rfl, ?_⟩
  replace hr := hr.trans hr'
  replace hA7 := hA7.rel hr'
  replace hA42 := hA42.rel hr'
  replace hA50 := hA50.rel hr'
  replace hgs6 := hr'.mem hgs6
  replace hgs34 := hr'.mem hgs34
  replace hgs41 := hr'.mem hgs41
  replace hgs49 := hr'.mem hgs49
  clear hst hr' hcon; have hst := hst'; clear hst'
  have hpX := hst.pX
  have hcon := dec.hb.synS _ _ _ _ _ _ _ _ _ _ _ _ _ _ hst (hB) (run 0 X (run 10 X p)) gn51 (by omega) (by omega) hgn51 ⟨_, _, mgn51⟩
  refine pC Tryz.func48 hcon ?_
  rintro e w ⟨err, eb', D', E', L', rfl, hst', hr', hflt⟩
  refine ⟨_, rfl, ?_⟩
  replace hr := hr.trans hr'
  replace hA7 := hA7.rel hr'
  replace hA42 := hA42.rel hr'
  replace hA50 := hA50.rel hr'
  replace hgs6 := hr'.mem hgs6
  replace hgs34 := hr'.mem hgs34
  replace hgs41 := hr'.mem hgs41
  replace hgs49 := hr'.mem hgs49
  replace mgn51 := hr'.mem mgn51
  clear hst hr' hcon; have hst := hst'; clear hst'
  refine pM 2 rfl (pL (pT (pZ (pU ?_))))
  have hR : timeP X p line = ⟨[], some (flt X (run 0 X (run 10 X p)) (run 12 X (run 0 X (run 10 X p))) line), (run 12 X (run 0 X (run 10 X p))), (if (run 10 X p) = p then 5 else 4), line⟩ := (if_neg (by omega)).trans ((if_neg (by rw [c37]; decide)).trans ((if_neg (by rw [c48]; decide))))
  rw [if_neg hz] at hR
  intro a S
  rw [hR]
  exact r_ret2 S rfl rfl rfl ⟨_, _, eb', D', E', L', rfl, hst.le 0 (Nat.zero_le _), hr, ⟨.inr ⟨_, rfl, hflt⟩, fun h => by cases h⟩⟩
 have c48 := not_eq_false_ bc48
 refine pK (pT (pS (pG ?_)))
 obtain ⟨v, cm, M, hD, hV, heb, H⟩ := id hst
 obtain ⟨rd, A, l, c, r0, mb, mr, hDe, hbuf, hrd, hr0, hvX, hdr, hsz, hpX⟩ := id hD
 rw [hDe] at H
 replace H := dc.open_.1 H
 clear hst hD
 refine pM 2 rfl (pA fa58_5 rfl rfl rfl (pE H rfl rfl rfl .here (by first | decide | simp [Value.cells]) sz54 ?_));clear H;intro w H
 refine pL ?_
 obtain ⟨D', hst', hr'⟩ : ∃ D'', ST TY 5 wb _ g X (((run 0 X (run 10 X p)) + (dc.eol X (run 0 X (run 10 X p))).2.1)) 0 5 false (((line + (dc.eol X (run 0 X (run 10 X p))).2.2))) eb' K D'' E' L' ∧ Rel D' E' L' eb' D'' E' L' eb' := ⟨_, ⟨v, cm, M, ⟨rd, A, l, c, r0, mb, mr, rfl, hbuf, hrd, hr0, hvX, hdr, hsz, hpX⟩, hV, heb, dc.open_.2 H⟩, by rw [hDe]; exact (Rel.refl _ _ _ _).head rfl⟩
 clear H hbuf hrd hr0 hvX hdr hsz hV heb hpX hDe; have hcon := hst'; have hst := hst'
 replace hr := hr.trans hr'
 replace hA7 := hA7.rel hr'
 replace hA42 := hA42.rel hr'
 replace hgs6 := hr'.mem hgs6
 replace hgs34 := hr'.mem hgs34
 replace hgs41 := hr'.mem hgs41
 clear hst hr' hcon; have hst := hst'; clear hst'
 refine pT (pS (pG (pM 3 rfl (pL (pT (pZ ?_))))))
 have hR : timeP X p line = ⟨((X.take (run 10 X p)).drop p), none, ((run 0 X (run 10 X p)) + (dc.eol X (run 0 X (run 10 X p))).2.1), 5, ((line + (dc.eol X (run 0 X (run 10 X p))).2.2))⟩ := (if_neg (by omega)).trans ((if_neg (by rw [c37]; decide)).trans ((if_pos c48)))
 intro a S
 rw [hR]
 exact r_ret2 S rfl rfl rfl ⟨_, _, eb', D', E', L', rfl, hst.le 0 (Nat.zero_le _), hr, ⟨.inl ⟨rfl, rfl⟩, fun _ => .inr ⟨fun h => c9 (by have h' : ((X.take (run 10 X p)).drop p) = [] := h; rw [h']; rfl), sl_ne hA7 hcA7⟩⟩⟩
end hj
end Go.Proofs.YtbahngfpadjbhaaGreatDoor.dec
end
