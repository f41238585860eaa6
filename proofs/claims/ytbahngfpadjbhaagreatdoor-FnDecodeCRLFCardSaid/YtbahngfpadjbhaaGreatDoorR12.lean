/- Part of the proof that FnDecodeCRLF answers true at every text, in every world that its card's statement admits; no condition beyond those. -/
import Derived.Test.YtbahngfpadjbhaaGreatDoorR11
import Derived.Test.YtbahngfpadjbhaaGreatDoorR05
import Derived.Test.YtbahngfpadjbhaaGreatDoorR04
set_option linter.unusedVariables false
set_option linter.unusedSimpArgs false
section
namespace Go.Proofs.YtbahngfpadjbhaaGreatDoor.dec
open Go.Proofs.YtbahngfpadjbhaaGreatDoor.fx
open Go.RowKit Go.Proofs.HHW Go.Proofs.YtbahngfpadjbhaaGreatDoorW.PrintWords Go.Proofs.YtbahngfpadjbhaaGreatDoor.dt
namespace hi
set_option maxHeartbeats 1000000 in
theorem tagS (wb w0 : World) (g : Nat) (X : List Int) (p V : Nat) (line : Nat) (eb : Value) (K : Nat) (D E L : dc.Bk) (hst : ST TY 5 wb w0 g X p V 1 false line eb K D E L) (hW : Wb 118 1 2 3 0 wb) (hB : Bd X line K) (hl5 : line ≤ 50000000) (hK5 : K ≤ 70000000) : Calls Tryz.prog 25 #[.pointer (some ⟨g, 0, none⟩)] w0 fun e w' => ∃ (v v' err : Value) (eb' : Value) (D' E' L' : dc.Bk), e = .returned (.tuple #[v, v', err]) ∧ ST TY 5 wb w' g X ((tagP X p line).p) 0 ((tagP X p line).sec) false ((tagP X p line).line) eb' (K + 16000) D' E' L' ∧ Rel D E L eb D' E' L' eb' ∧ TagR ⟨104, 101, 118⟩ wb.heap.size D' E' L' eb' (tagP X p line) v v' err := by
 obtain ⟨eb', D', E', L', hst, hr⟩ : ∃ (eb' : Value) (D' E' L' : dc.Bk), ST TY 5 wb w0 g X p V 1 false line eb' K D' E' L' ∧ Rel D E L eb D' E' L' eb' := ⟨eb, D, E, L, hst, Rel.refl _ _ _ _⟩
 refine c_enter (args := [.pointer (some ⟨g, 0, none⟩)]) (k := 115) Tryz.func25 rfl rfl rfl ?_
 refine pS (pG (pM 3 rfl (pL (pT (pS (pS (pG (pM 1 rfl ?_))))))))
 have hcon := dec.hf.secS _ _ _ _ _ _ _ _ _ _ _ _ _ _ hst 1 (by decide)
 rw [show decide ((1 : Int) = 1) = true from rfl] at hcon
 refine pC Tryz.func20 hcon ?_
 rintro e w ⟨eb', D', E', L', rfl, hst', hr'⟩
 refine ⟨_, rfl, ?_⟩
 replace hr := hr.trans hr'
 clear hst hr' hcon; have hst := hst'; clear hst'
 refine pM 5 rfl (pL (pT (pS (pG (pM 1 rfl (pP (p_nilnilN mi51 rfl) rfl (pL (pT (zf (pS (pG (pM 1 rfl (pP (p_not rfl) rfl (pL (pT (zf (pK (pT (pS (pS (pG (pM 1 rfl ?_))))))))))))))))))))))
 have hcon := dec.hb.ensS _ _ _ _ _ _ _ _ _ _ _ _ _ _ hst hW
 refine pC Tryz.func22 hcon ?_
 rintro e w ⟨eb', D', E', L', rfl, hst', hr'⟩
 refine ⟨_, rfl, ?_⟩
 replace hr := hr.trans hr'
 clear hst hr' hcon; have hst := hst'; clear hst'
 refine pM 1 rfl ?_;intro a S
 refine l_split (S.of 23 rfl) (fun bc7 => ?_) (fun bc7 => ?_)
 ·
  have c7 := of_decide_eq_true bc7
  revert a;refine pN bc7 ?_
  have hcon := dec.hb.s0 _ _ _ _ _ _ _ _ _ _ _ _ _ _ hst
  refine pC Tryz.func38 hcon ?_
  rintro e w ⟨gs8, eb', D', E', L', rfl, hst', hr', hgs8⟩
  refine ⟨_, rfl, ?_⟩
  replace hr := hr.trans hr'
  clear hst hr' hcon; have hst := hst'; clear hst'
  refine pN bc7 (pP (p_move rfl) rfl (pN bc7 ?_))
  have hpX := hst.pX
  have hcon := dec.hb.atS _ _ _ _ _ _ _ _ _ _ _ _ _ _ hst (by omega)
  refine pC Tryz.func39 hcon ?_
  rintro e w ⟨eb', D', E', L', rfl, hst', hr'⟩
  refine ⟨_, rfl, ?_⟩
  replace hr := hr.trans hr'
  replace hgs8 := hr'.mem hgs8
  clear hst hr' hcon; have hst := hst'; clear hst'
  refine pN bc7 ?_
  have hcon := dec.hb.getS _ _ _ _ _ _ _ _ _ _ _ _ _ _ hst gs8 0 (X.getD p 0) (at_by hB.by_ p) hgs8
  refine pC Tryz.func52 hcon ?_
  rintro e w ⟨eb', D', E', L', rfl, hst', hr'⟩
  refine ⟨_, rfl, ?_⟩
  replace hr := hr.trans hr'
  replace hgs8 := hr'.mem hgs8
  clear hst hr' hcon; have hst := hst'; clear hst'
  refine pP (p_pick_t rfl bc7 rfl) rfl (pL (pT (zc rfl (fun bc10 => ?_) (fun bc10 => ?_))))
  ·
   have c10 := bc10
   have h1 := (sIn0 (at_by hB.by_ p).1).1 bc10
   refine pS (pG (pM 1 rfl ?_))
   have hcon := dec.hb.s0 _ _ _ _ _ _ _ _ _ _ _ _ _ _ hst
   refine pC Tryz.func38 hcon ?_
   rintro e w ⟨gs11, eb', D', E', L', rfl, hst', hr', hgs11⟩
   refine ⟨_, rfl, ?_⟩
   replace hr := hr.trans hr'
   replace hgs8 := hr'.mem hgs8
   clear hst hr' hcon; have hst := hst'; clear hst'
   have hcon := dec.hb.takS _ _ _ _ _ _ _ _ _ _ _ _ _ _ hst hW (hB) gs11 0 hgs11
   refine pC Tryz.func37 hcon ?_
   rintro e w ⟨A12, cA12, eb', D', E', L', rfl, hst', hr', hA12, hcA12⟩
   refine ⟨_, rfl, ?_⟩
   replace hr := hr.trans hr'
   replace hgs8 := hr'.mem hgs8
   replace hgs11 := hr'.mem hgs11
   clear hst hr' hcon; have hst := hst'; clear hst'
   have hgA12 := run_ge 0 X p
   refine pL (pT (pS (pG ?_)))
   obtain ⟨v, cm, M, hD, hV, heb, H⟩ := id hst
   obtain ⟨rd, A, l, c, r0, mb, mr, hDe, hbuf, hrd, hr0, hvX, hdr, hsz, hpX⟩ := id hD
   rw [hDe] at H
   replace H := dc.open_.1 H
   clear hst hD
   refine pM 2 rfl (pA fa58_5 rfl rfl rfl (pE H rfl rfl rfl .here (by first | decide | simp [Value.cells]) sz54 ?_));clear H;intro w H
   refine pL ?_
   obtain ⟨D', hst', hr'⟩ : ∃ D'', ST TY 5 wb _ g X ((run 0 X p)) ((min ((run 0 X p) + 1) X.length)) 2 false line eb' K D'' E' L' ∧ Rel D' E' L' eb' D'' E' L' eb' := ⟨_, ⟨v, cm, M, ⟨rd, A, l, c, r0, mb, mr, rfl, hbuf, hrd, hr0, hvX, hdr, hsz, hpX⟩, hV, heb, dc.open_.2 H⟩, by rw [hDe]; exact (Rel.refl _ _ _ _).head rfl⟩
   clear H hbuf hrd hr0 hvX hdr hsz hV heb hpX hDe; have hcon := hst'; have hst := hst'
   replace hr := hr.trans hr'
   replace hA12 := hA12.rel hr'
   replace hgs8 := hr'.mem hgs8
   replace hgs11 := hr'.mem hgs11
   clear hst hr' hcon; have hst := hst'; clear hst'
   refine pT (pS (pG (pM 3 rfl (pL (pT (pZ (pU ?_)))))))
   have hR : tagP X p line = ⟨none, none, run 0 X p, 2, line⟩ := if_pos ⟨by omega, h1⟩
   intro a S
   rw [hR]
   exact r_ret3 S rfl rfl rfl rfl ⟨_, _, _, eb', D', E', L', rfl, (hst.le 0 (Nat.zero_le _)).leK _ (by omega), hr, ⟨.inl ⟨rfl, rfl⟩, fun _ => .inl ⟨rfl, rfl⟩⟩⟩
  have c10 := bc10
  have hn1 : ¬ (p < X.length ∧ X.getD p 0 = 32) := fun h => by have h' := (sIn0 (at_by hB.by_ p).1).2 h.2; rw [h'] at bc10; cases bc10
  refine pK (pT (pS (pG (pM 1 rfl ?_))))
  have hcon := dec.hb.s2 _ _ _ _ _ _ _ _ _ _ _ _ _ _ hst
  refine pC Tryz.func53 hcon ?_
  rintro e w ⟨gs13, eb', D', E', L', rfl, hst', hr', hgs13⟩
  refine ⟨_, rfl, ?_⟩
  replace hr := hr.trans hr'
  replace hgs8 := hr'.mem hgs8
  clear hst hr' hcon; have hst := hst'; clear hst'
  have hcon := dec.hb.e1 _ _ _ _ _ _ _ _ _ _ _ _ _ _ hst
  refine pC Tryz.func54 hcon ?_
  rintro e w ⟨ge14, eb', D', E', L', rfl, hst', hr', hge14⟩
  refine ⟨_, rfl, ?_⟩
  replace hr := hr.trans hr'
  replace hgs8 := hr'.mem hgs8
  replace hgs13 := hr'.mem hgs13
  clear hst hr' hcon; have hst := hst'; clear hst'
  refine pP (p_nilCheck rfl) rfl (pA fa96_1 rfl rfl rfl ?_)
  have hpA15 := hst.pX
  have hcon := dec.hb.escS_ _ _ _ _ _ _ _ _ _ _ _ _ _ _ hst hW (hB) rfl gs13 2 hgs13 ge14 1 (by decide) hge14
  refine pC Tryz.func45 hcon ?_
  rintro e w ⟨A15, cA15, err, sec', eb', D', E', L', rfl, hst', hr', hA15, hcA15, hf⟩
  refine ⟨_, rfl, ?_⟩
  replace hr := hr.trans hr'
  replace hgs8 := hr'.mem hgs8
  replace hgs13 := hr'.mem hgs13
  replace hge14 := hr'.mem hge14
  clear hst hr' hcon; have hst := hst'; clear hst'
  have hqA15 := tkQ_le (k := 1) (s := 2) hpA15
  rcases hf with ⟨hvA15, rfl, rfl⟩ | ⟨hvA15, rfl, hflt⟩
  ·
   replace hst : ST TY 5 wb w g X ((tkQ 1 2 X p)) ((tkQ 1 2 X p)) 1 false line eb' ((K + 8000)) D' E' L' := hst
   refine pM 7 rfl (pL (pT (pS (pS (pG (pM 1 rfl (pP (p_nilnilN mi51 rfl) rfl (pL (pT (zf (pK (pT (pS (pS (pG (pM 1 rfl (pP (p_len Tryz.underlying23 rfl) rfl (pP (p_eql rfl rfl) rfl (pM 1 rfl ?_)))))))))))))))))));intro a S
   refine l_split (S.of 51 rfl) (fun bc19 => ?_) (fun bc19 => ?_)
   ·
    have c19 := eq_of_beq bc19
    have h13 : ((tkT 1 2 X p) = [] ∨ X.length ≤ (tkQ 1 2 X p) ∨ X.getD (tkQ 1 2 X p) 0 ≠ 61) := .inl (List.length_eq_zero_iff.1 (by omega))
    revert a;refine pO bc19 rfl (pO bc19 rfl (pO bc19 rfl (pP (p_pick_t rfl bc19 rfl) rfl (pM 1 rfl (pO rfl rfl (pO rfl rfl (pO rfl rfl (pP (p_pick_t rfl rfl rfl) rfl (pL (pT (zt (pS (pS (pG (pM 1 rfl ?_)))))))))))))))
    have hcon := dec.hb.ensS _ _ _ _ _ _ _ _ _ _ _ _ _ _ hst hW
    refine pC Tryz.func22 hcon ?_
    rintro e w ⟨eb', D', E', L', rfl, hst', hr'⟩
    refine ⟨_, rfl, ?_⟩
    replace hr := hr.trans hr'
    replace hA15 := hA15.rel hr'
    replace hgs8 := hr'.mem hgs8
    replace hgs13 := hr'.mem hgs13
    replace hge14 := hr'.mem hge14
    clear hst hr' hcon; have hst := hst'; clear hst'
    refine pP (p_not rfl) rfl (pL (pT (zc rfl (fun bc25 => ?_) (fun bc25 => ?_))))
    ·
     have c25 := not_eq_true_ bc25
     have c25 := of_decide_eq_false c25
     refine pS (pG (pM 2 rfl ?_))
     have hcon := dec.hb.errS _ _ _ _ _ _ _ _ _ _ _ _ _ _ hst ⟨#[101, 109, 112, 116, 121, 32, 116, 97, 103, 32, 110, 97, 109, 101]⟩
     refine pC Tryz.func49 hcon ?_
     rintro e w ⟨gn26, eb', D', E', L', rfl, hst', hr', hgn26, mgn26⟩
     refine ⟨_, rfl, ?_⟩
     replace hr := hr.trans hr'
     replace hA15 := hA15.rel hr'
     replace hgs8 := hr'.mem hgs8
     replace hgs13 := hr'.mem hgs13
     replace hge14 := hr'.mem hge14
     clear hst hr' hcon; have hst := hst'; clear hst'
     have hpX := hst.pX
     have hcon := dec.hb.synS _ _ _ _ _ _ _ _ _ _ _ _ _ _ hst (hB.up (by omega) (by omega)) p gn26 (by omega) (by omega) hgn26 ⟨_, _, mgn26⟩
     refine pC Tryz.func48 hcon ?_
     rintro e w ⟨err, eb', D', E', L', rfl, hst', hr', hflt⟩
     refine ⟨_, rfl, ?_⟩
     replace hr := hr.trans hr'
     replace hA15 := hA15.rel hr'
     replace hgs8 := hr'.mem hgs8
     replace hgs13 := hr'.mem hgs13
     replace hge14 := hr'.mem hge14
     replace mgn26 := hr'.mem mgn26
     clear hst hr' hcon; have hst := hst'; clear hst'
     refine pM 3 rfl (pL (pT (pZ (pU (pU ?_)))))
     have hR : tagP X p line = ⟨none, some (flt X p (tkQ 1 2 X p) line), (tkQ 1 2 X p), 4, line⟩ := (if_neg hn1).trans ((if_neg (tru_ne hvA15)).trans ((if_pos h13)))
     intro a S
     rw [hR]
     exact r_ret3 S rfl rfl rfl rfl ⟨_, _, _, eb', D', E', L', rfl, (hst.le 0 (Nat.zero_le _)).leK _ (by omega), hr, ⟨.inr ⟨_, rfl, hflt⟩, fun h => by cases h⟩⟩
    have c25 := not_eq_false_ bc25
    have c25 := of_decide_eq_true c25
    refine pK (pT (pS (pS (pG (pM 1 rfl (pP (p_len Tryz.underlying23 rfl) rfl (pP (p_gtr rfl rfl) rfl (pL (pT (zc rfl (fun bc28 => ?_) (fun bc28 => ?_)))))))))))
    ·
     have c28 := of_decide_eq_true bc28
     refine pS (pG (pM 2 rfl ?_))
     have hcon := dec.hb.errS _ _ _ _ _ _ _ _ _ _ _ _ _ _ hst ⟨#[101, 120, 112, 101, 99, 116, 101, 100, 32, 39, 61, 39, 32, 97, 102, 116, 101, 114, 32, 116, 97, 103, 32, 107, 101, 121, 32, 46, 46, 44, 32, 98, 117, 116, 32, 103, 111, 116, 32, 46, 46, 32, 105, 110, 115, 116, 101, 97, 100]⟩
     refine pC Tryz.func49 hcon ?_
     rintro e w ⟨gn29, eb', D', E', L', rfl, hst', hr', hgn29, mgn29⟩
     refine ⟨_, rfl, ?_⟩
     replace hr := hr.trans hr'
     replace hA15 := hA15.rel hr'
     replace hgs8 := hr'.mem hgs8
     replace hgs13 := hr'.mem hgs13
     replace hge14 := hr'.mem hge14
     clear hst hr' hcon; have hst := hst'; clear hst'
     have hpX := hst.pX
     have hcon := dec.hb.synS _ _ _ _ _ _ _ _ _ _ _ _ _ _ hst (hB.up (by omega) (by omega)) p gn29 (by omega) (by omega) hgn29 ⟨_, _, mgn29⟩
     refine pC Tryz.func48 hcon ?_
     rintro e w ⟨err, eb', D', E', L', rfl, hst', hr', hflt⟩
     refine ⟨_, rfl, ?_⟩
     replace hr := hr.trans hr'
     replace hA15 := hA15.rel hr'
     replace hgs8 := hr'.mem hgs8
     replace hgs13 := hr'.mem hgs13
     replace hge14 := hr'.mem hge14
     replace mgn29 := hr'.mem mgn29
     clear hst hr' hcon; have hst := hst'; clear hst'
     refine pM 3 rfl (pL (pT (pZ (pU (pU ?_)))))
     have hR : tagP X p line = ⟨none, some (flt X p (tkQ 1 2 X p) line), (tkQ 1 2 X p), 4, line⟩ := (if_neg hn1).trans ((if_neg (tru_ne hvA15)).trans ((if_pos h13)))
     intro a S
     rw [hR]
     exact r_ret3 S rfl rfl rfl rfl ⟨_, _, _, eb', D', E', L', rfl, (hst.le 0 (Nat.zero_le _)).leK _ (by omega), hr, ⟨.inr ⟨_, rfl, hflt⟩, fun h => by cases h⟩⟩
    have c28 := of_decide_eq_false bc28
    refine pK (pT (pS (pG (pM 2 rfl ?_))))
    have hcon := dec.hb.errS _ _ _ _ _ _ _ _ _ _ _ _ _ _ hst ⟨#[101, 120, 112, 101, 99, 116, 101, 100, 32, 116, 97, 103, 32, 107, 101, 121, 32, 111, 114, 32, 102, 105, 101, 108, 100, 32, 98, 117, 116, 32, 102, 111, 117, 110, 100, 32, 46, 46, 32, 105, 110, 115, 116, 101, 97, 100]⟩
    refine pC Tryz.func49 hcon ?_
    rintro e w ⟨gn30, eb', D', E', L', rfl, hst', hr', hgn30, mgn30⟩
    refine ⟨_, rfl, ?_⟩
    replace hr := hr.trans hr'
    replace hA15 := hA15.rel hr'
    replace hgs8 := hr'.mem hgs8
    replace hgs13 := hr'.mem hgs13
    replace hge14 := hr'.mem hge14
    clear hst hr' hcon; have hst := hst'; clear hst'
    have hpX := hst.pX
    have hcon := dec.hb.synS _ _ _ _ _ _ _ _ _ _ _ _ _ _ hst (hB.up (by omega) (by omega)) p gn30 (by omega) (by omega) hgn30 ⟨_, _, mgn30⟩
    refine pC Tryz.func48 hcon ?_
    rintro e w ⟨err, eb', D', E', L', rfl, hst', hr', hflt⟩
    refine ⟨_, rfl, ?_⟩
    replace hr := hr.trans hr'
    replace hA15 := hA15.rel hr'
    replace hgs8 := hr'.mem hgs8
    replace hgs13 := hr'.mem hgs13
    replace hge14 := hr'.mem hge14
    replace mgn30 := hr'.mem mgn30
    clear hst hr' hcon; have hst := hst'; clear hst'
    refine pM 3 rfl (pL (pT (pZ (pU ?_))))
    have hR : tagP X p line = ⟨none, some (flt X p (tkQ 1 2 X p) line), (tkQ 1 2 X p), 4, line⟩ := (if_neg hn1).trans ((if_neg (tru_ne hvA15)).trans ((if_pos h13)))
    intro a S
    rw [hR]
    exact r_ret3 S rfl rfl rfl rfl ⟨_, _, _, eb', D', E', L', rfl, (hst.le 0 (Nat.zero_le _)).leK _ (by omega), hr, ⟨.inr ⟨_, rfl, hflt⟩, fun h => by cases h⟩⟩
   have c19 := ne_of_beq_false bc19
   revert a;refine pN bc19 (pP (p_move rfl) rfl (pN bc19 ?_))
   have hcon := dec.hb.ensS _ _ _ _ _ _ _ _ _ _ _ _ _ _ hst hW
   refine pC Tryz.func22 hcon ?_
   rintro e w ⟨eb', D', E', L', rfl, hst', hr'⟩
   refine ⟨_, rfl, ?_⟩
   replace hr := hr.trans hr'
   replace hA15 := hA15.rel hr'
   replace hgs8 := hr'.mem hgs8
   replace hgs13 := hr'.mem hgs13
   replace hge14 := hr'.mem hge14
   clear hst hr' hcon; have hst := hst'; clear hst'
   refine pN bc19 (pP (p_not rfl) rfl (pP (p_pick_f rfl bc19 rfl) rfl (pM 1 rfl ?_)));intro a S
   refine l_split (S.of 56 rfl) (fun bc33 => ?_) (fun bc33 => ?_)
   ·
    have c33 := not_eq_true_ bc33
    have c33 := of_decide_eq_false c33
    have h13 : ((tkT 1 2 X p) = [] ∨ X.length ≤ (tkQ 1 2 X p) ∨ X.getD (tkQ 1 2 X p) 0 ≠ 61) := .inr (.inl (by omega))
    revert a;refine pO bc33 rfl (pO bc33 rfl (pO bc33 rfl (pP (p_pick_t rfl bc33 rfl) rfl (pL (pT (zt (pS (pS (pG (pM 1 rfl ?_))))))))))
    have hcon := dec.hb.ensS _ _ _ _ _ _ _ _ _ _ _ _ _ _ hst hW
    refine pC Tryz.func22 hcon ?_
    rintro e w ⟨eb', D', E', L', rfl, hst', hr'⟩
    refine ⟨_, rfl, ?_⟩
    replace hr := hr.trans hr'
    replace hA15 := hA15.rel hr'
    replace hgs8 := hr'.mem hgs8
    replace hgs13 := hr'.mem hgs13
    replace hge14 := hr'.mem hge14
    clear hst hr' hcon; have hst := hst'; clear hst'
    refine pP (p_not rfl) rfl (pL (pT (zc rfl (fun bc38 => ?_) (fun bc38 => ?_))))
    ·
     have c38 := not_eq_true_ bc38
     have c38 := of_decide_eq_false c38
     refine pS (pG (pM 2 rfl ?_))
     have hcon := dec.hb.errS _ _ _ _ _ _ _ _ _ _ _ _ _ _ hst ⟨#[101, 109, 112, 116, 121, 32, 116, 97, 103, 32, 110, 97, 109, 101]⟩
     refine pC Tryz.func49 hcon ?_
     rintro e w ⟨gn39, eb', D', E', L', rfl, hst', hr', hgn39, mgn39⟩
     refine ⟨_, rfl, ?_⟩
     replace hr := hr.trans hr'
     replace hA15 := hA15.rel hr'
     replace hgs8 := hr'.mem hgs8
     replace hgs13 := hr'.mem hgs13
     replace hge14 := hr'.mem hge14
     clear hst hr' hcon; have hst := hst'; clear hst'
     have hpX := hst.pX
     have hcon := dec.hb.synS _ _ _ _ _ _ _ _ _ _ _ _ _ _ hst (hB.up (by omega) (by omega)) p gn39 (by omega) (by omega) hgn39 ⟨_, _, mgn39⟩
     refine pC Tryz.func48 hcon ?_
     rintro e w ⟨err, eb', D', E', L', rfl, hst', hr', hflt⟩
     refine ⟨_, rfl, ?_⟩
     replace hr := hr.trans hr'
     replace hA15 := hA15.rel hr'
     replace hgs8 := hr'.mem hgs8
     replace hgs13 := hr'.mem hgs13
     replace hge14 := hr'.mem hge14
     replace mgn39 := hr'.mem mgn39
     clear hst hr' hcon; have hst := hst'; clear hst'
     refine pM 3 rfl (pL (pT (pZ (pU (pU ?_)))))
     have hR : tagP X p line = ⟨none, some (flt X p (tkQ 1 2 X p) line), (tkQ 1 2 X p), 4, line⟩ := (if_neg hn1).trans ((if_neg (tru_ne hvA15)).trans ((if_pos h13)))
     intro a S
     rw [hR]
     exact r_ret3 S rfl rfl rfl rfl ⟨_, _, _, eb', D', E', L', rfl, (hst.le 0 (Nat.zero_le _)).leK _ (by omega), hr, ⟨.inr ⟨_, rfl, hflt⟩, fun h => by cases h⟩⟩
    have c38 := not_eq_false_ bc38
    have c38 := of_decide_eq_true c38
    refine pK (pT (pS (pS (pG (pM 1 rfl (pP (p_len Tryz.underlying23 rfl) rfl (pP (p_gtr rfl rfl) rfl (pL (pT (zc rfl (fun bc41 => ?_) (fun bc41 => ?_)))))))))))
    ·
     have c41 := of_decide_eq_true bc41
     refine pS (pG (pM 2 rfl ?_))
     have hcon := dec.hb.errS _ _ _ _ _ _ _ _ _ _ _ _ _ _ hst ⟨#[101, 120, 112, 101, 99, 116, 101, 100, 32, 39, 61, 39, 32, 97, 102, 116, 101, 114, 32, 116, 97, 103, 32, 107, 101, 121, 32, 46, 46, 44, 32, 98, 117, 116, 32, 103, 111, 116, 32, 46, 46, 32, 105, 110, 115, 116, 101, 97, 100]⟩
     refine pC Tryz.func49 hcon ?_
     rintro e w ⟨gn42, eb', D', E', L', rfl, hst', hr', hgn42, mgn42⟩
     refine ⟨_, rfl, ?_⟩
     replace hr := hr.trans hr'
     replace hA15 := hA15.rel hr'
     replace hgs8 := hr'.mem hgs8
     replace hgs13 := hr'.mem hgs13
     replace hge14 := hr'.mem hge14
     clear hst hr' hcon; have hst := hst'; clear hst'
     have hpX := hst.pX
     have hcon := dec.hb.synS _ _ _ _ _ _ _ _ _ _ _ _ _ _ hst (hB.up (by omega) (by omega)) p gn42 (by omega) (by omega) hgn42 ⟨_, _, mgn42⟩
     refine pC Tryz.func48 hcon ?_
     rintro e w ⟨err, eb', D', E', L', rfl, hst', hr', hflt⟩
     refine ⟨_, rfl, ?_⟩
     replace hr := hr.trans hr'
     replace hA15 := hA15.rel hr'
     replace hgs8 := hr'.mem hgs8
     replace hgs13 := hr'.mem hgs13
     replace hge14 := hr'.mem hge14
     replace mgn42 := hr'.mem mgn42
     clear hst hr' hcon; have hst := hst'; clear hst'
     refine pM 3 rfl (pL (pT (pZ (pU (pU ?_)))))
     have hR : tagP X p line = ⟨none, some (flt X p (tkQ 1 2 X p) line), (tkQ 1 2 X p), 4, line⟩ := (if_neg hn1).trans ((if_neg (tru_ne hvA15)).trans ((if_pos h13)))
     intro a S
     rw [hR]
     exact r_ret3 S rfl rfl rfl rfl ⟨_, _, _, eb', D', E', L', rfl, (hst.le 0 (Nat.zero_le _)).leK _ (by omega), hr, ⟨.inr ⟨_, rfl, hflt⟩, fun h => by cases h⟩⟩
    have c41 := of_decide_eq_false bc41
    refine pK (pT (pS (pG (pM 2 rfl ?_))))
    have hcon := dec.hb.errS _ _ _ _ _ _ _ _ _ _ _ _ _ _ hst ⟨#[101, 120, 112, 101, 99, 116, 101, 100, 32, 116, 97, 103, 32, 107, 101, 121, 32, 111, 114, 32, 102, 105, 101, 108, 100, 32, 98, 117, 116, 32, 102, 111, 117, 110, 100, 32, 46, 46, 32, 105, 110, 115, 116, 101, 97, 100]⟩
    refine pC Tryz.func49 hcon ?_
    rintro e w ⟨gn43, eb', D', E', L', rfl, hst', hr', hgn43, mgn43⟩
    refine ⟨_, rfl, ?_⟩
    replace hr := hr.trans hr'
    replace hA15 := hA15.rel hr'
    replace hgs8 := hr'.mem hgs8
    replace hgs13 := hr'.mem hgs13
    replace hge14 := hr'.mem hge14
    clear hst hr' hcon; have hst := hst'; clear hst'
    have hpX := hst.pX
    have hcon := dec.hb.synS _ _ _ _ _ _ _ _ _ _ _ _ _ _ hst (hB.up (by omega) (by omega)) p gn43 (by omega) (by omega) hgn43 ⟨_, _, mgn43⟩
    refine pC Tryz.func48 hcon ?_
    rintro e w ⟨err, eb', D', E', L', rfl, hst', hr', hflt⟩
    refine ⟨_, rfl, ?_⟩
    replace hr := hr.trans hr'
    replace hA15 := hA15.rel hr'
    replace hgs8 := hr'.mem hgs8
    replace hgs13 := hr'.mem hgs13
    replace hge14 := hr'.mem hge14
    replace mgn43 := hr'.mem mgn43
    clear hst hr' hcon; have hst := hst'; clear hst'
    refine pM 3 rfl (pL (pT (pZ (pU ?_))))
    have hR : tagP X p line = ⟨none, some (flt X p (tkQ 1 2 X p) line), (tkQ 1 2 X p), 4, line⟩ := (if_neg hn1).trans ((if_neg (tru_ne hvA15)).trans ((if_pos h13)))
    intro a S
    rw [hR]
    exact r_ret3 S rfl rfl rfl rfl ⟨_, _, _, eb', D', E', L', rfl, (hst.le 0 (Nat.zero_le _)).leK _ (by omega), hr, ⟨.inr ⟨_, rfl, hflt⟩, fun h => by cases h⟩⟩
   have c33 := not_eq_false_ bc33
   have c33 := of_decide_eq_true c33
   revert a;refine pN bc33 (pP (p_move rfl) rfl (pN bc33 ?_))
   have hpX := hst.pX
   have hcon := dec.hb.atS _ _ _ _ _ _ _ _ _ _ _ _ _ _ hst (by omega)
   refine pC Tryz.func39 hcon ?_
   rintro e w ⟨eb', D', E', L', rfl, hst', hr'⟩
   refine ⟨_, rfl, ?_⟩
   replace hr := hr.trans hr'
   replace hA15 := hA15.rel hr'
   replace hgs8 := hr'.mem hgs8
   replace hgs13 := hr'.mem hgs13
   replace hge14 := hr'.mem hge14
   clear hst hr' hcon; have hst := hst'; clear hst'
   refine pN bc33 (pP (p_neq rfl rfl) rfl (pP (p_pick_f rfl bc33 rfl) rfl (pL (pT (zc rfl (fun bc45 => ?_) (fun bc45 => ?_))))))
   ·
    have c45 := bne_iff_ne.1 bc45
    have h13 : ((tkT 1 2 X p) = [] ∨ X.length ≤ (tkQ 1 2 X p) ∨ X.getD (tkQ 1 2 X p) 0 ≠ 61) := .inr (.inr c45)
    refine pS (pS (pG (pM 1 rfl ?_)))
    have hcon := dec.hb.ensS _ _ _ _ _ _ _ _ _ _ _ _ _ _ hst hW
    refine pC Tryz.func22 hcon ?_
    rintro e w ⟨eb', D', E', L', rfl, hst', hr'⟩
    refine ⟨_, rfl, ?_⟩
    replace hr := hr.trans hr'
    replace hA15 := hA15.rel hr'
    replace hgs8 := hr'.mem hgs8
    replace hgs13 := hr'.mem hgs13
    replace hge14 := hr'.mem hge14
    clear hst hr' hcon; have hst := hst'; clear hst'
    refine pP (p_not rfl) rfl (pL (pT (zc rfl (fun bc48 => ?_) (fun bc48 => ?_))))
    ·
     have c48 := not_eq_true_ bc48
     have c48 := of_decide_eq_false c48
     refine pS (pG (pM 2 rfl ?_))
     have hcon := dec.hb.errS _ _ _ _ _ _ _ _ _ _ _ _ _ _ hst ⟨#[101, 109, 112, 116, 121, 32, 116, 97, 103, 32, 110, 97, 109, 101]⟩
     refine pC Tryz.func49 hcon ?_
     rintro e w ⟨gn49, eb', D', E', L', rfl, hst', hr', hgn49, mgn49⟩
     refine ⟨_, rfl, ?_⟩
     replace hr := hr.trans hr'
     replace hA15 := hA15.rel hr'
     replace hgs8 := hr'.mem hgs8
     replace hgs13 := hr'.mem hgs13
     replace hge14 := hr'.mem hge14
     clear hst hr' hcon; have hst := hst'; clear hst'
     have hpX := hst.pX
     have hcon := dec.hb.synS _ _ _ _ _ _ _ _ _ _ _ _ _ _ hst (hB.up (by omega) (by omega)) p gn49 (by omega) (by omega) hgn49 ⟨_, _, mgn49⟩
     refine pC Tryz.func48 hcon ?_
     rintro e w ⟨err, eb', D', E', L', rfl, hst', hr', hflt⟩
     refine ⟨_, rfl, ?_⟩
     replace hr := hr.trans hr'
     replace hA15 := hA15.rel hr'
     replace hgs8 := hr'.mem hgs8
     replace hgs13 := hr'.mem hgs13
     replace hge14 := hr'.mem hge14
     replace mgn49 := hr'.mem mgn49
     clear hst hr' hcon; have hst := hst'; clear hst'
     refine pM 3 rfl (pL (pT (pZ (pU (pU ?_)))))
     have hR : tagP X p line = ⟨none, some (flt X p (tkQ 1 2 X p) line), (tkQ 1 2 X p), 4, line⟩ := (if_neg hn1).trans ((if_neg (tru_ne hvA15)).trans ((if_pos h13)))
     intro a S
     rw [hR]
     exact r_ret3 S rfl rfl rfl rfl ⟨_, _, _, eb', D', E', L', rfl, (hst.le 0 (Nat.zero_le _)).leK _ (by omega), hr, ⟨.inr ⟨_, rfl, hflt⟩, fun h => by cases h⟩⟩
    have c48 := not_eq_false_ bc48
    have c48 := of_decide_eq_true c48
    refine pK (pT (pS (pS (pG (pM 1 rfl (pP (p_len Tryz.underlying23 rfl) rfl (pP (p_gtr rfl rfl) rfl (pL (pT (zc rfl (fun bc51 => ?_) (fun bc51 => ?_)))))))))))
    ·
     have c51 := of_decide_eq_true bc51
     refine pS (pG (pM 2 rfl ?_))
     have hcon := dec.hb.errS _ _ _ _ _ _ _ _ _ _ _ _ _ _ hst ⟨#[101, 120, 112, 101, 99, 116, 101, 100, 32, 39, 61, 39, 32, 97, 102, 116, 101, 114, 32, 116, 97, 103, 32, 107, 101, 121, 32, 46, 46, 44, 32, 98, 117, 116, 32, 103, 111, 116, 32, 46, 46, 32, 105, 110, 115, 116, 101, 97, 100]⟩
     refine pC Tryz.func49 hcon ?_
     rintro e w ⟨gn52, eb', D', E', L', rfl, hst', hr', hgn52, mgn52⟩
     refine ⟨_, rfl, ?_⟩
     replace hr := hr.trans hr'
     replace hA15 := hA15.rel hr'
     replace hgs8 := hr'.mem hgs8
     replace hgs13 := hr'.mem hgs13
     replace hge14 := hr'.mem hge14
     clear hst hr' hcon; have hst := hst'; clear hst'
     have hpX := hst.pX
     have hcon := dec.hb.synS _ _ _ _ _ _ _ _ _ _ _ _ _ _ hst (hB.up (by omega) (by omega)) p gn52 (by omega) (by omega) hgn52 ⟨_, _, mgn52⟩
     refine pC Tryz.func48 hcon ?_
     rintro e w ⟨err, eb', D', E', L', rfl, hst', hr', hflt⟩
     refine ⟨_, rfl, ?_⟩
     replace hr := hr.trans hr'
     replace hA15 := hA15.rel hr'
     replace hgs8 := hr'.mem hgs8
     replace hgs13 := hr'.mem hgs13
     replace hge14 := hr'.mem hge14
     replace mgn52 := hr'.mem mgn52
     clear hst hr' hcon; have hst := hst'; clear hst'
     refine pM 3 rfl (pL (pT (pZ (pU (pU ?_)))))
     have hR : tagP X p line = ⟨none, some (flt X p (tkQ 1 2 X p) line), (tkQ 1 2 X p), 4, line⟩ := (if_neg hn1).trans ((if_neg (tru_ne hvA15)).trans ((if_pos h13)))
     intro a S
     rw [hR]
     exact r_ret3 S rfl rfl rfl rfl ⟨_, _, _, eb', D', E', L', rfl, (hst.le 0 (Nat.zero_le _)).leK _ (by omega), hr, ⟨.inr ⟨_, rfl, hflt⟩, fun h => by cases h⟩⟩
    have c51 := of_decide_eq_false bc51
    refine pK (pT (pS (pG (pM 2 rfl ?_))))
    have hcon := dec.hb.errS _ _ _ _ _ _ _ _ _ _ _ _ _ _ hst ⟨#[101, 120, 112, 101, 99, 116, 101, 100, 32, 116, 97, 103, 32, 107, 101, 121, 32, 111, 114, 32, 102, 105, 101, 108, 100, 32, 98, 117, 116, 32, 102, 111, 117, 110, 100, 32, 46, 46, 32, 105, 110, 115, 116, 101, 97, 100]⟩
    refine pC Tryz.func49 hcon ?_
    rintro e w ⟨gn53, eb', D', E', L', rfl, hst', hr', hgn53, mgn53⟩
    refine ⟨_, rfl, ?_⟩
    replace hr := hr.trans hr'
    replace hA15 := hA15.rel hr'
    replace hgs8 := hr'.mem hgs8
    replace hgs13 := hr'.mem hgs13
    replace hge14 := hr'.mem hge14
    clear hst hr' hcon; have hst := hst'; clear hst'
    have hpX := hst.pX
    have hcon := dec.hb.synS _ _ _ _ _ _ _ _ _ _ _ _ _ _ hst (hB.up (by omega) (by omega)) p gn53 (by omega) (by omega) hgn53 ⟨_, _, mgn53⟩
    refine pC Tryz.func48 hcon ?_
    rintro e w ⟨err, eb', D', E', L', rfl, hst', hr', hflt⟩
    refine ⟨_, rfl, ?_⟩
    replace hr := hr.trans hr'
    replace hA15 := hA15.rel hr'
    replace hgs8 := hr'.mem hgs8
    replace hgs13 := hr'.mem hgs13
    replace hge14 := hr'.mem hge14
    replace mgn53 := hr'.mem mgn53
    clear hst hr' hcon; have hst := hst'; clear hst'
    refine pM 3 rfl (pL (pT (pZ (pU ?_))))
    have hR : tagP X p line = ⟨none, some (flt X p (tkQ 1 2 X p) line), (tkQ 1 2 X p), 4, line⟩ := (if_neg hn1).trans ((if_neg (tru_ne hvA15)).trans ((if_pos h13)))
    intro a S
    rw [hR]
    exact r_ret3 S rfl rfl rfl rfl ⟨_, _, _, eb', D', E', L', rfl, (hst.le 0 (Nat.zero_le _)).leK _ (by omega), hr, ⟨.inr ⟨_, rfl, hflt⟩, fun h => by cases h⟩⟩
   have c45 := bne_eq_false_iff_eq.1 bc45
   have hn13 : ¬ ((tkT 1 2 X p) = [] ∨ X.length ≤ (tkQ 1 2 X p) ∨ X.getD (tkQ 1 2 X p) 0 ≠ 61) := by
    rintro (h | h | h)
    ·
     exact c19 (by rw [h]; rfl)
    ·
     omega
    ·
     exact h c45
   refine pK (pT (pS (pG (pM 1 rfl ?_))))
   have hpX := hst.pX
   have hcon := dec.hb.advS _ _ _ _ _ _ _ _ _ _ _ _ _ _ hst (by omega)
   refine pC Tryz.func42 hcon ?_
   rintro e w ⟨eb', D', E', L', rfl, hst', hr'⟩
   refine ⟨_, rfl, ?_⟩
   replace hr := hr.trans hr'
   replace hA15 := hA15.rel hr'
   replace hgs8 := hr'.mem hgs8
   replace hgs13 := hr'.mem hgs13
   replace hge14 := hr'.mem hge14
   clear hst hr' hcon; have hst := hst'; clear hst'
   refine pL (pT (pS (pG (pM 1 rfl ?_))))
   have hcon := dec.hb.s6 _ _ _ _ _ _ _ _ _ _ _ _ _ _ hst
   refine pC Tryz.func55 hcon ?_
   rintro e w ⟨gs54, eb', D', E', L', rfl, hst', hr', hgs54⟩
   refine ⟨_, rfl, ?_⟩
   replace hr := hr.trans hr'
   replace hA15 := hA15.rel hr'
   replace hgs8 := hr'.mem hgs8
   replace hgs13 := hr'.mem hgs13
   replace hge14 := hr'.mem hge14
   clear hst hr' hcon; have hst := hst'; clear hst'
   have hcon := dec.hb.e2 _ _ _ _ _ _ _ _ _ _ _ _ _ _ hst
   refine pC Tryz.func56 hcon ?_
   rintro e w ⟨ge55, eb', D', E', L', rfl, hst', hr', hge55⟩
   refine ⟨_, rfl, ?_⟩
   replace hr := hr.trans hr'
   replace hA15 := hA15.rel hr'
   replace hgs8 := hr'.mem hgs8
   replace hgs13 := hr'.mem hgs13
   replace hge14 := hr'.mem hge14
   replace hgs54 := hr'.mem hgs54
   clear hst hr' hcon; have hst := hst'; clear hst'
   refine pP (p_nilCheck rfl) rfl (pA fa96_1 rfl rfl rfl ?_)
   have hpA56 := hst.pX
   have hcon := dec.hb.escS_ _ _ _ _ _ _ _ _ _ _ _ _ _ _ hst hW (hB.up (by omega) (by omega)) rfl gs54 6 hgs54 ge55 2 (by decide) hge55
   refine pC Tryz.func45 hcon ?_
   rintro e w ⟨A56, cA56, err, sec', eb', D', E', L', rfl, hst', hr', hA56, hcA56, hf⟩
   refine ⟨_, rfl, ?_⟩
   replace hr := hr.trans hr'
   replace hA15 := hA15.rel hr'
   replace hgs8 := hr'.mem hgs8
   replace hgs13 := hr'.mem hgs13
   replace hge14 := hr'.mem hge14
   replace hgs54 := hr'.mem hgs54
   replace hge55 := hr'.mem hge55
   clear hst hr' hcon; have hst := hst'; clear hst'
   have hqA56 := tkQ_le (k := 2) (s := 6) hpA56
   rcases hf with ⟨hvA56, rfl, rfl⟩ | ⟨hvA56, rfl, hflt⟩
   ·
    replace hst : ST TY 5 wb w g X ((tkQ 2 6 X ((tkQ 1 2 X p) + 1))) ((tkQ 2 6 X ((tkQ 1 2 X p) + 1))) 1 false line eb' (((K + 8000) + 8000)) D' E' L' := hst
    refine pM 7 rfl (pL (pT (pS (pS (pG (pM 1 rfl (pP (p_nilnilN mi51 rfl) rfl (pL (pT (zf (pK (pT (pS (pS (pG (pM 1 rfl (pP (p_len Tryz.underlying23 rfl) rfl (pP (p_eql rfl rfl) rfl (pL (pT (zc rfl (fun bc60 => ?_) (fun bc60 => ?_))))))))))))))))))))))
    ·
     have c60 := eq_of_beq bc60
     refine pS (pG (pM 2 rfl ?_))
     have hcon := dec.hb.errS _ _ _ _ _ _ _ _ _ _ _ _ _ _ hst ⟨#[101, 120, 112, 101, 99, 116, 101, 100, 32, 116, 97, 103, 32, 118, 97, 108, 117, 101, 32, 97, 102, 116, 101, 114, 32, 116, 97, 103, 32, 107, 101, 121, 32, 46, 46, 44, 32, 98, 117, 116, 32, 110, 111, 110, 101, 32, 102, 111, 117, 110, 100]⟩
     refine pC Tryz.func49 hcon ?_
     rintro e w ⟨gn61, eb', D', E', L', rfl, hst', hr', hgn61, mgn61⟩
     refine ⟨_, rfl, ?_⟩
     replace hr := hr.trans hr'
     replace hA15 := hA15.rel hr'
     replace hA56 := hA56.rel hr'
     replace hgs8 := hr'.mem hgs8
     replace hgs13 := hr'.mem hgs13
     replace hge14 := hr'.mem hge14
     replace hgs54 := hr'.mem hgs54
     replace hge55 := hr'.mem hge55
     clear hst hr' hcon; have hst := hst'; clear hst'
     have hpX := hst.pX
     have hcon := dec.hb.synS _ _ _ _ _ _ _ _ _ _ _ _ _ _ hst (hB.up (by omega) (by omega)) ((tkQ 1 2 X p) + 1) gn61 (by omega) (by omega) hgn61 ⟨_, _, mgn61⟩
     refine pC Tryz.func48 hcon ?_
     rintro e w ⟨err, eb', D', E', L', rfl, hst', hr', hflt⟩
     refine ⟨_, rfl, ?_⟩
     replace hr := hr.trans hr'
     replace hA15 := hA15.rel hr'
     replace hA56 := hA56.rel hr'
     replace hgs8 := hr'.mem hgs8
     replace hgs13 := hr'.mem hgs13
     replace hge14 := hr'.mem hge14
     replace hgs54 := hr'.mem hgs54
     replace hge55 := hr'.mem hge55
     replace mgn61 := hr'.mem mgn61
     clear hst hr' hcon; have hst := hst'; clear hst'
     refine pM 3 rfl (pL (pT (pZ (pU ?_))))
     have hR : tagP X p line = ⟨none, some (flt X ((tkQ 1 2 X p) + 1) (tkQ 2 6 X ((tkQ 1 2 X p) + 1)) line), (tkQ 2 6 X ((tkQ 1 2 X p) + 1)), 4, line⟩ := (if_neg hn1).trans ((if_neg (tru_ne hvA15)).trans ((if_neg hn13).trans ((if_neg (tru_ne hvA56)).trans ((if_pos (List.length_eq_zero_iff.1 (by omega)))))))
     intro a S
     rw [hR]
     exact r_ret3 S rfl rfl rfl rfl ⟨_, _, _, eb', D', E', L', rfl, (hst.le 0 (Nat.zero_le _)).leK _ (by omega), hr, ⟨.inr ⟨_, rfl, hflt⟩, fun h => by cases h⟩⟩
    have c60 := ne_of_beq_false bc60
    refine pK (pT (pS (pS (pG (pM 1 rfl ?_)))))
    have hcon := dec.hb.ensS _ _ _ _ _ _ _ _ _ _ _ _ _ _ hst hW
    refine pC Tryz.func22 hcon ?_
    rintro e w ⟨eb', D', E', L', rfl, hst', hr'⟩
    refine ⟨_, rfl, ?_⟩
    replace hr := hr.trans hr'
    replace hA15 := hA15.rel hr'
    replace hA56 := hA56.rel hr'
    replace hgs8 := hr'.mem hgs8
    replace hgs13 := hr'.mem hgs13
    replace hge14 := hr'.mem hge14
    replace hgs54 := hr'.mem hgs54
    replace hge55 := hr'.mem hge55
    clear hst hr' hcon; have hst := hst'; clear hst'
    refine pP (p_not rfl) rfl (pL (pT (zc rfl (fun bc64 => ?_) (fun bc64 => ?_))))
    ·
     have c64 := not_eq_true_ bc64
     have c64 := of_decide_eq_false c64
     refine pS (pG ?_)
     obtain ⟨v, cm, M, hD, hV, heb, H⟩ := id hst
     obtain ⟨rd, A, l, c, r0, mb, mr, hDe, hbuf, hrd, hr0, hvX, hdr, hsz, hpX⟩ := id hD
     rw [hDe] at H
     replace H := dc.open_.1 H
     clear hst hD
     refine pM 2 rfl (pA fa58_5 rfl rfl rfl (pE H rfl rfl rfl .here (by first | decide | simp [Value.cells]) sz54 ?_));clear H;intro w H
     refine pL ?_
     obtain ⟨D', hst', hr'⟩ : ∃ D'', ST TY 5 wb _ g X ((tkQ 2 6 X ((tkQ 1 2 X p) + 1))) ((min ((tkQ 2 6 X ((tkQ 1 2 X p) + 1)) + 1) X.length)) 2 false line eb' (((K + 8000) + 8000)) D'' E' L' ∧ Rel D' E' L' eb' D'' E' L' eb' := ⟨_, ⟨v, cm, M, ⟨rd, A, l, c, r0, mb, mr, rfl, hbuf, hrd, hr0, hvX, hdr, hsz, hpX⟩, hV, heb, dc.open_.2 H⟩, by rw [hDe]; exact (Rel.refl _ _ _ _).head rfl⟩
     clear H hbuf hrd hr0 hvX hdr hsz hV heb hpX hDe; have hcon := hst'; have hst := hst'
     replace hr := hr.trans hr'
     replace hA15 := hA15.rel hr'
     replace hA56 := hA56.rel hr'
     replace hgs8 := hr'.mem hgs8
     replace hgs13 := hr'.mem hgs13
     replace hge14 := hr'.mem hge14
     replace hgs54 := hr'.mem hgs54
     replace hge55 := hr'.mem hge55
     clear hst hr' hcon; have hst := hst'; clear hst'
     refine pT (pS (pG (pM 5 rfl (pL (pT (pZ (pU ?_)))))))
     have hR : tagP X p line = ⟨some ((tkT 1 2 X p), (tkT 2 6 X ((tkQ 1 2 X p) + 1))), none, (tkQ 2 6 X ((tkQ 1 2 X p) + 1)), 2, line⟩ := (if_neg hn1).trans ((if_neg (tru_ne hvA15)).trans ((if_neg hn13).trans ((if_neg (tru_ne hvA56)).trans ((if_neg (fun h => c60 (by rw [h]; rfl))).trans ((if_pos (by omega)))))))
     intro a S
     rw [hR]
     exact r_ret3 S rfl rfl rfl rfl ⟨_, _, _, eb', D', E', L', rfl, (hst.le 0 (Nat.zero_le _)).leK _ (by omega), hr, ⟨.inl ⟨rfl, rfl⟩, fun _ => .inr ⟨_, rfl, sl_ne hA15 hcA15, fun h => hn13 (.inl h), sl_ne hA56 hcA56⟩⟩⟩
    have c64 := not_eq_false_ bc64
    have c64 := of_decide_eq_true c64
    refine pK (pT (pS (pS (pG (pM 1 rfl ?_)))))
    have hcon := dec.hc.comS _ _ _ _ _ _ _ _ _ _ _ _ _ _ hst hW (hB.up (by omega) (by omega))
    refine pC Tryz.func50 hcon ?_
    rintro e w ⟨err, eb', D', E', L', rfl, hst', hr', her⟩
    refine ⟨_, rfl, ?_⟩
    replace hr := hr.trans hr'
    replace hA15 := hA15.rel hr'
    replace hA56 := hA56.rel hr'
    replace hgs8 := hr'.mem hgs8
    replace hgs13 := hr'.mem hgs13
    replace hge14 := hr'.mem hge14
    replace hgs54 := hr'.mem hgs54
    replace hge55 := hr'.mem hge55
    clear hst hr' hcon; have hst := hst'; clear hst'
    rcases her with ⟨hcf, rfl⟩ | ⟨fx, hcf, hflt⟩
    ·
     have hc2 := ite_none hcf
     replace hst : ST TY 5 wb w g X ((comma X (tkQ 2 6 X ((tkQ 1 2 X p) + 1))).1) 0 1 false line eb' (((K + 8000) + 8000)) D' E' L' := by rw [hc2] at hst; exact hst
     refine pM 1 rfl (pL (pT (pS (pG (pM 1 rfl (pP (p_nilnilN mi51 rfl) rfl (pL (pT (zf (pK (pT (pS (pG (pM 5 rfl (pL (pT (pZ ?_)))))))))))))))))
     have hR : tagP X p line = ⟨some ((tkT 1 2 X p), (tkT 2 6 X ((tkQ 1 2 X p) + 1))), none, (comma X (tkQ 2 6 X ((tkQ 1 2 X p) + 1))).1, 1, line⟩ := (if_neg hn1).trans ((if_neg (tru_ne hvA15)).trans ((if_neg hn13).trans ((if_neg (tru_ne hvA56)).trans ((if_neg (fun h => c60 (by rw [h]; rfl))).trans ((if_neg (by omega)).trans ((if_neg (by rw [hc2]; decide))))))))
     intro a S
     rw [hR]
     exact r_ret3 S rfl rfl rfl rfl ⟨_, _, _, eb', D', E', L', rfl, (hst.le 0 (Nat.zero_le _)).leK _ (by omega), hr, ⟨.inl ⟨rfl, rfl⟩, fun _ => .inr ⟨_, rfl, sl_ne hA15 hcA15, fun h => hn13 (.inl h), sl_ne hA56 hcA56⟩⟩⟩
    obtain ⟨hc2, rfl⟩ := ite_some hcf
    obtain ⟨gf, gn', rfl, hf1, hf2⟩ := id hflt
    replace hst : ST TY 5 wb w g X ((comma X (tkQ 2 6 X ((tkQ 1 2 X p) + 1))).1) 0 ((fsec 1)) false line eb' (((K + 8000) + 8000)) D' E' L' := by rw [hc2] at hst; exact hst
    refine pM 1 rfl (pL (pT (pS (pG (pM 1 rfl (pP (p_ifnilN mi51 rfl rfl) rfl (pL (pT (zt (pS (pG (pM 4 rfl (pL (pT (pZ (pU ?_))))))))))))))))
    have hR : tagP X p line = ⟨none, some (flt X (comma X (tkQ 2 6 X ((tkQ 1 2 X p) + 1))).1 (comma X (tkQ 2 6 X ((tkQ 1 2 X p) + 1))).1 line), (comma X (tkQ 2 6 X ((tkQ 1 2 X p) + 1))).1, 4, line⟩ := (if_neg hn1).trans ((if_neg (tru_ne hvA15)).trans ((if_neg hn13).trans ((if_neg (tru_ne hvA56)).trans ((if_neg (fun h => c60 (by rw [h]; rfl))).trans ((if_neg (by omega)).trans ((if_pos hc2)))))))
    intro a S
    rw [hR]
    exact r_ret3 S rfl rfl rfl rfl ⟨_, _, _, eb', D', E', L', rfl, (hst.le 0 (Nat.zero_le _)).leK _ (by omega), hr, ⟨.inr ⟨_, rfl, hflt⟩, fun h => by cases h⟩⟩
   replace hst : ST TY 5 wb w g X ((tkQ 2 6 X ((tkQ 1 2 X p) + 1))) ((tkQ 2 6 X ((tkQ 1 2 X p) + 1))) ((fsec 1)) false line eb' (((K + 8000) + 8000)) D' E' L' := hst
   replace hflt : FaultAt 104 101 118 wb.heap.size L' err (flt X ((tkQ 1 2 X p) + 1) (tkQ 2 6 X ((tkQ 1 2 X p) + 1)) line) := hflt
   obtain ⟨gf, gn', rfl, hf1, hf2⟩ := id hflt
   refine pM 7 rfl (pL (pT (pS (pS (pG (pM 1 rfl (pP (p_ifnilN mi51 rfl rfl) rfl (pL (pT (zt (pS (pG (pM 4 rfl (pL (pT (pZ (pU ?_)))))))))))))))))
   have hR : tagP X p line = ⟨none, some (flt X ((tkQ 1 2 X p) + 1) (tkQ 2 6 X ((tkQ 1 2 X p) + 1)) line), (tkQ 2 6 X ((tkQ 1 2 X p) + 1)), 4, line⟩ := (if_neg hn1).trans ((if_neg (tru_ne hvA15)).trans ((if_neg hn13).trans ((if_pos hvA56))))
   intro a S
   rw [hR]
   exact r_ret3 S rfl rfl rfl rfl ⟨_, _, _, eb', D', E', L', rfl, (hst.le 0 (Nat.zero_le _)).leK _ (by omega), hr, ⟨.inr ⟨_, rfl, hflt⟩, fun h => by cases h⟩⟩
  replace hst : ST TY 5 wb w g X ((tkQ 1 2 X p)) ((tkQ 1 2 X p)) ((fsec 1)) false line eb' ((K + 8000)) D' E' L' := hst
  replace hflt : FaultAt 104 101 118 wb.heap.size L' err (flt X p (tkQ 1 2 X p) line) := hflt
  obtain ⟨gf, gn', rfl, hf1, hf2⟩ := id hflt
  refine pM 7 rfl (pL (pT (pS (pS (pG (pM 1 rfl (pP (p_ifnilN mi51 rfl rfl) rfl (pL (pT (zt (pS (pG (pM 4 rfl (pL (pT (pZ (pU ?_)))))))))))))))))
  have hR : tagP X p line = ⟨none, some (flt X p (tkQ 1 2 X p) line), (tkQ 1 2 X p), 4, line⟩ := (if_neg hn1).trans ((if_pos hvA15))
  intro a S
  rw [hR]
  exact r_ret3 S rfl rfl rfl rfl ⟨_, _, _, eb', D', E', L', rfl, (hst.le 0 (Nat.zero_le _)).leK _ (by omega), hr, ⟨.inr ⟨_, rfl, hflt⟩, fun h => by cases h⟩⟩
 have c7 := of_decide_eq_false bc7
 have hn1 : ¬ (p < X.length ∧ X.getD p 0 = 32) := fun h => by omega
 revert a;refine pO bc7 rfl (pO bc7 rfl (pO bc7 rfl (pO bc7 rfl (pP (p_pick_f rfl bc7 rfl) rfl (pL (pT (zf (pK (pT (pS (pG (pM 1 rfl ?_))))))))))))
 have hcon := dec.hb.s2 _ _ _ _ _ _ _ _ _ _ _ _ _ _ hst
 refine pC Tryz.func53 hcon ?_
 rintro e w ⟨gs75, eb', D', E', L', rfl, hst', hr', hgs75⟩
 refine ⟨_, rfl, ?_⟩
 replace hr := hr.trans hr'
 clear hst hr' hcon; have hst := hst'; clear hst'
 have hcon := dec.hb.e1 _ _ _ _ _ _ _ _ _ _ _ _ _ _ hst
 refine pC Tryz.func54 hcon ?_
 rintro e w ⟨ge76, eb', D', E', L', rfl, hst', hr', hge76⟩
 refine ⟨_, rfl, ?_⟩
 replace hr := hr.trans hr'
 replace hgs75 := hr'.mem hgs75
 clear hst hr' hcon; have hst := hst'; clear hst'
 refine pP (p_nilCheck rfl) rfl (pA fa96_1 rfl rfl rfl ?_)
 have hpA77 := hst.pX
 have hcon := dec.hb.escS_ _ _ _ _ _ _ _ _ _ _ _ _ _ _ hst hW (hB) rfl gs75 2 hgs75 ge76 1 (by decide) hge76
 refine pC Tryz.func45 hcon ?_
 rintro e w ⟨A77, cA77, err, sec', eb', D', E', L', rfl, hst', hr', hA77, hcA77, hf⟩
 refine ⟨_, rfl, ?_⟩
 replace hr := hr.trans hr'
 replace hgs75 := hr'.mem hgs75
 replace hge76 := hr'.mem hge76
 clear hst hr' hcon; have hst := hst'; clear hst'
 have hqA77 := tkQ_le (k := 1) (s := 2) hpA77
 rcases hf with ⟨hvA77, rfl, rfl⟩ | ⟨hvA77, rfl, hflt⟩
 ·
  replace hst : ST TY 5 wb w g X ((tkQ 1 2 X p)) ((tkQ 1 2 X p)) 1 false line eb' ((K + 8000)) D' E' L' := hst
  refine pM 7 rfl (pL (pT (pS (pS (pG (pM 1 rfl (pP (p_nilnilN mi51 rfl) rfl (pL (pT (zf (pK (pT (pS (pS (pG (pM 1 rfl (pP (p_len Tryz.underlying23 rfl) rfl (pP (p_eql rfl rfl) rfl (pM 1 rfl ?_)))))))))))))))))));intro a S
  refine l_split (S.of 51 rfl) (fun bc81 => ?_) (fun bc81 => ?_)
  ·
   have c81 := eq_of_beq bc81
   have h13 : ((tkT 1 2 X p) = [] ∨ X.length ≤ (tkQ 1 2 X p) ∨ X.getD (tkQ 1 2 X p) 0 ≠ 61) := .inl (List.length_eq_zero_iff.1 (by omega))
   revert a;refine pO bc81 rfl (pO bc81 rfl (pO bc81 rfl (pP (p_pick_t rfl bc81 rfl) rfl (pM 1 rfl (pO rfl rfl (pO rfl rfl (pO rfl rfl (pP (p_pick_t rfl rfl rfl) rfl (pL (pT (zt (pS (pS (pG (pM 1 rfl ?_)))))))))))))))
   have hcon := dec.hb.ensS _ _ _ _ _ _ _ _ _ _ _ _ _ _ hst hW
   refine pC Tryz.func22 hcon ?_
   rintro e w ⟨eb', D', E', L', rfl, hst', hr'⟩
   refine ⟨_, rfl, ?_⟩
   replace hr := hr.trans hr'
   replace hA77 := hA77.rel hr'
   replace hgs75 := hr'.mem hgs75
   replace hge76 := hr'.mem hge76
   clear hst hr' hcon; have hst := hst'; clear hst'
   refine pP (p_not rfl) rfl (pL (pT (zc rfl (fun bc87 => ?_) (fun bc87 => ?_))))
   ·
    have c87 := not_eq_true_ bc87
    have c87 := of_decide_eq_false c87
    refine pS (pG (pM 2 rfl ?_))
    have hcon := dec.hb.errS _ _ _ _ _ _ _ _ _ _ _ _ _ _ hst ⟨#[101, 109, 112, 116, 121, 32, 116, 97, 103, 32, 110, 97, 109, 101]⟩
    refine pC Tryz.func49 hcon ?_
    rintro e w ⟨gn88, eb', D', E', L', rfl, hst', hr', hgn88, mgn88⟩
    refine ⟨_, rfl, ?_⟩
    replace hr := hr.trans hr'
    replace hA77 := hA77.rel hr'
    replace hgs75 := hr'.mem hgs75
    replace hge76 := hr'.mem hge76
    clear hst hr' hcon; have hst := hst'; clear hst'
    have hpX := hst.pX
    have hcon := dec.hb.synS _ _ _ _ _ _ _ _ _ _ _ _ _ _ hst (hB.up (by omega) (by omega)) p gn88 (by omega) (by omega) hgn88 ⟨_, _, mgn88⟩
    refine pC Tryz.func48 hcon ?_
    rintro e w ⟨err, eb', D', E', L', rfl, hst', hr', hflt⟩
    refine ⟨_, rfl, ?_⟩
    replace hr := hr.trans hr'
    replace hA77 := hA77.rel hr'
    replace hgs75 := hr'.mem hgs75
    replace hge76 := hr'.mem hge76
    replace mgn88 := hr'.mem mgn88
    clear hst hr' hcon; have hst := hst'; clear hst'
    refine pM 3 rfl (pL (pT (pZ (pU (pU ?_)))))
    have hR : tagP X p line = ⟨none, some (flt X p (tkQ 1 2 X p) line), (tkQ 1 2 X p), 4, line⟩ := (if_neg hn1).trans ((if_neg (tru_ne hvA77)).trans ((if_pos h13)))
    intro a S
    rw [hR]
    exact r_ret3 S rfl rfl rfl rfl ⟨_, _, _, eb', D', E', L', rfl, (hst.le 0 (Nat.zero_le _)).leK _ (by omega), hr, ⟨.inr ⟨_, rfl, hflt⟩, fun h => by cases h⟩⟩
   have c87 := not_eq_false_ bc87
   have c87 := of_decide_eq_true c87
   refine pK (pT (pS (pS (pG (pM 1 rfl (pP (p_len Tryz.underlying23 rfl) rfl (pP (p_gtr rfl rfl) rfl (pL (pT (zc rfl (fun bc90 => ?_) (fun bc90 => ?_)))))))))))
   ·
    have c90 := of_decide_eq_true bc90
    refine pS (pG (pM 2 rfl ?_))
    have hcon := dec.hb.errS _ _ _ _ _ _ _ _ _ _ _ _ _ _ hst ⟨#[101, 120, 112, 101, 99, 116, 101, 100, 32, 39, 61, 39, 32, 97, 102, 116, 101, 114, 32, 116, 97, 103, 32, 107, 101, 121, 32, 46, 46, 44, 32, 98, 117, 116, 32, 103, 111, 116, 32, 46, 46, 32, 105, 110, 115, 116, 101, 97, 100]⟩
    refine pC Tryz.func49 hcon ?_
    rintro e w ⟨gn91, eb', D', E', L', rfl, hst', hr', hgn91, mgn91⟩
    refine ⟨_, rfl, ?_⟩
    replace hr := hr.trans hr'
    replace hA77 := hA77.rel hr'
    replace hgs75 := hr'.mem hgs75
    replace hge76 := hr'.mem hge76
    clear hst hr' hcon; have hst := hst'; clear hst'
    have hpX := hst.pX
    have hcon := dec.hb.synS _ _ _ _ _ _ _ _ _ _ _ _ _ _ hst (hB.up (by omega) (by omega)) p gn91 (by omega) (by omega) hgn91 ⟨_, _, mgn91⟩
    refine pC Tryz.func48 hcon ?_
    rintro e w ⟨err, eb', D', E', L', rfl, hst', hr', hflt⟩
    refine ⟨_, rfl, ?_⟩
    replace hr := hr.trans hr'
    replace hA77 := hA77.rel hr'
    replace hgs75 := hr'.mem hgs75
    replace hge76 := hr'.mem hge76
    replace mgn91 := hr'.mem mgn91
    clear hst hr' hcon; have hst := hst'; clear hst'
    refine pM 3 rfl (pL (pT (pZ (pU (pU ?_)))))
    have hR : tagP X p line = ⟨none, some (flt X p (tkQ 1 2 X p) line), (tkQ 1 2 X p), 4, line⟩ := (if_neg hn1).trans ((if_neg (tru_ne hvA77)).trans ((if_pos h13)))
    intro a S
    rw [hR]
    exact r_ret3 S rfl rfl rfl rfl ⟨_, _, _, eb', D', E', L', rfl, (hst.le 0 (Nat.zero_le _)).leK _ (by omega), hr, ⟨.inr ⟨_, rfl, hflt⟩, fun h => by cases h⟩⟩
   have c90 := of_decide_eq_false bc90
   refine pK (pT (pS (pG (pM 2 rfl ?_))))
   have hcon := dec.hb.errS _ _ _ _ _ _ _ _ _ _ _ _ _ _ hst ⟨#[101, 120, 112, 101, 99, 116, 101, 100, 32, 116, 97, 103, 32, 107, 101, 121, 32, 111, 114, 32, 102, 105, 101, 108, 100, 32, 98, 117, 116, 32, 102, 111, 117, 110, 100, 32, 46, 46, 32, 105, 110, 115, 116, 101, 97, 100]⟩
   refine pC Tryz.func49 hcon ?_
   rintro e w ⟨gn92, eb', D', E', L', rfl, hst', hr', hgn92, mgn92⟩
   refine ⟨_, rfl, ?_⟩
   replace hr := hr.trans hr'
   replace hA77 := hA77.rel hr'
   replace hgs75 := hr'.mem hgs75
   replace hge76 := hr'.mem hge76
   clear hst hr' hcon; have hst := hst'; clear hst'
   have hpX := hst.pX
   have hcon := dec.hb.synS _ _ _ _ _ _ _ _ _ _ _ _ _ _ hst (hB.up (by omega) (by omega)) p gn92 (by omega) (by omega) hgn92 ⟨_, _, mgn92⟩
   refine pC Tryz.func48 hcon ?_
   rintro e w ⟨err, eb', D', E', L', rfl, hst', hr', hflt⟩
   refine ⟨_, rfl, ?_⟩
   replace hr := hr.trans hr'
   replace hA77 := hA77.rel hr'
   replace hgs75 := hr'.mem hgs75
   replace hge76 := hr'.mem hge76
   replace mgn92 := hr'.mem mgn92
   clear hst hr' hcon; have hst := hst'; clear hst'
   refine pM 3 rfl (pL (pT (pZ (pU ?_))))
   have hR : tagP X p line = ⟨none, some (flt X p (tkQ 1 2 X p) line), (tkQ 1 2 X p), 4, line⟩ := (if_neg hn1).trans ((if_neg (tru_ne hvA77)).trans ((if_pos h13)))
   intro a S
   rw [hR]
   exact r_ret3 S rfl rfl rfl rfl ⟨_, _, _, eb', D', E', L', rfl, (hst.le 0 (Nat.zero_le _)).leK _ (by omega), hr, ⟨.inr ⟨_, rfl, hflt⟩, fun h => by cases h⟩⟩
  have c81 := ne_of_beq_false bc81
  revert a;refine pN bc81 (pP (p_move rfl) rfl (pN bc81 ?_))
  have hcon := dec.hb.ensS _ _ _ _ _ _ _ _ _ _ _ _ _ _ hst hW
  refine pC Tryz.func22 hcon ?_
  rintro e w ⟨eb', D', E', L', rfl, hst', hr'⟩
  refine ⟨_, rfl, ?_⟩
  replace hr := hr.trans hr'
  replace hA77 := hA77.rel hr'
  replace hgs75 := hr'.mem hgs75
  replace hge76 := hr'.mem hge76
  clear hst hr' hcon; have hst := hst'; clear hst'
  refine pN bc81 (pP (p_not rfl) rfl (pP (p_pick_f rfl bc81 rfl) rfl (pM 1 rfl ?_)));intro a S
  refine l_split (S.of 56 rfl) (fun bc95 => ?_) (fun bc95 => ?_)
  ·
   have c95 := not_eq_true_ bc95
   have c95 := of_decide_eq_false c95
   have h13 : ((tkT 1 2 X p) = [] ∨ X.length ≤ (tkQ 1 2 X p) ∨ X.getD (tkQ 1 2 X p) 0 ≠ 61) := .inr (.inl (by omega))
   revert a;refine pO bc95 rfl (pO bc95 rfl (pO bc95 rfl (pP (p_pick_t rfl bc95 rfl) rfl (pL (pT (zt (pS (pS (pG (pM 1 rfl ?_))))))))))
   have hcon := dec.hb.ensS _ _ _ _ _ _ _ _ _ _ _ _ _ _ hst hW
   refine pC Tryz.func22 hcon ?_
   rintro e w ⟨eb', D', E', L', rfl, hst', hr'⟩
   refine ⟨_, rfl, ?_⟩
   replace hr := hr.trans hr'
   replace hA77 := hA77.rel hr'
   replace hgs75 := hr'.mem hgs75
   replace hge76 := hr'.mem hge76
   clear hst hr' hcon; have hst := hst'; clear hst'
   refine pP (p_not rfl) rfl (pL (pT (zc rfl (fun bc100 => ?_) (fun bc100 => ?_))))
   ·
    have c100 := not_eq_true_ bc100
    have c100 := of_decide_eq_false c100
    refine pS (pG (pM 2 rfl ?_))
    have hcon := dec.hb.errS _ _ _ _ _ _ _ _ _ _ _ _ _ _ hst ⟨#[101, 109, 112, 116, 121, 32, 116, 97, 103, 32, 110, 97, 109, 101]⟩
    refine pC Tryz.func49 hcon ?_
    rintro e w ⟨gn101, eb', D', E', L', rfl, hst', hr', hgn101, mgn101⟩
    refine ⟨_, rfl, ?_⟩
    replace hr := hr.trans hr'
    replace hA77 := hA77.rel hr'
    replace hgs75 := hr'.mem hgs75
    replace hge76 := hr'.mem hge76
    clear hst hr' hcon; have hst := hst'; clear hst'
    have hpX := hst.pX
    have hcon := dec.hb.synS _ _ _ _ _ _ _ _ _ _ _ _ _ _ hst (hB.up (by omega) (by omega)) p gn101 (by omega) (by omega) hgn101 ⟨_, _, mgn101⟩
    refine pC Tryz.func48 hcon ?_
    rintro e w ⟨err, eb', D', E', L', rfl, hst', hr', hflt⟩
    refine ⟨_, rfl, ?_⟩
    replace hr := hr.trans hr'
    replace hA77 := hA77.rel hr'
    replace hgs75 := hr'.mem hgs75
    replace hge76 := hr'.mem hge76
    replace mgn101 := hr'.mem mgn101
    clear hst hr' hcon; have hst := hst'; clear hst'
    refine pM 3 rfl (pL (pT (pZ (pU (pU ?_)))))
    have hR : tagP X p line = ⟨none, some (flt X p (tkQ 1 2 X p) line), (tkQ 1 2 X p), 4, line⟩ := (if_neg hn1).trans ((if_neg (tru_ne hvA77)).trans ((if_pos h13)))
    intro a S
    rw [hR]
    exact r_ret3 S rfl rfl rfl rfl ⟨_, _, _, eb', D', E', L', rfl, (hst.le 0 (Nat.zero_le _)).leK _ (by omega), hr, ⟨.inr ⟨_, rfl, hflt⟩, fun h => by cases h⟩⟩
   have c100 := not_eq_false_ bc100
   have c100 := of_decide_eq_true c100
   refine pK (pT (pS (pS (pG (pM 1 rfl (pP (p_len Tryz.underlying23 rfl) rfl (pP (p_gtr rfl rfl) rfl (pL (pT (zc rfl (fun bc103 => ?_) (fun bc103 => ?_)))))))))))
   ·
    have c103 := of_decide_eq_true bc103
    refine pS (pG (pM 2 rfl ?_))
    have hcon := dec.hb.errS _ _ _ _ _ _ _ _ _ _ _ _ _ _ hst ⟨#[101, 120, 112, 101, 99, 116, 101, 100, 32, 39, 61, 39, 32, 97, 102, 116, 101, 114, 32, 116, 97, 103, 32, 107, 101, 121, 32, 46, 46, 44, 32, 98, 117, 116, 32, 103, 111, 116, 32, 46, 46, 32, 105, 110, 115, 116, 101, 97, 100]⟩
    refine pC Tryz.func49 hcon ?_
    rintro e w ⟨gn104, eb', D', E', L', rfl, hst', hr', hgn104, mgn104⟩
    refine ⟨_, rfl, ?_⟩
    replace hr := hr.trans hr'
    replace hA77 := hA77.rel hr'
    replace hgs75 := hr'.mem hgs75
    replace hge76 := hr'.mem hge76
    clear hst hr' hcon; have hst := hst'; clear hst'
    have hpX := hst.pX
    have hcon := dec.hb.synS _ _ _ _ _ _ _ _ _ _ _ _ _ _ hst (hB.up (by omega) (by omega)) p gn104 (by omega) (by omega) hgn104 ⟨_, _, mgn104⟩
    refine pC Tryz.func48 hcon ?_
    rintro e w ⟨err, eb', D', E', L', rfl, hst', hr', hflt⟩
    refine ⟨_, rfl, ?_⟩
    replace hr := hr.trans hr'
    replace hA77 := hA77.rel hr'
    replace hgs75 := hr'.mem hgs75
    replace hge76 := hr'.mem hge76
    replace mgn104 := hr'.mem mgn104
    clear hst hr' hcon; have hst := hst'; clear hst'
    refine pM 3 rfl (pL (pT (pZ (pU (pU ?_)))))
    have hR : tagP X p line = ⟨none, some (flt X p (tkQ 1 2 X p) line), (tkQ 1 2 X p), 4, line⟩ := (if_neg hn1).trans ((if_neg (tru_ne hvA77)).trans ((if_pos h13)))
    intro a S
    rw [hR]
    exact r_ret3 S rfl rfl rfl rfl ⟨_, _, _, eb', D', E', L', rfl, (hst.le 0 (Nat.zero_le _)).leK _ (by omega), hr, ⟨.inr ⟨_, rfl, hflt⟩, fun h => by cases h⟩⟩
   have c103 := of_decide_eq_false bc103
   refine pK (pT (pS (pG (pM 2 rfl ?_))))
   have hcon := dec.hb.errS _ _ _ _ _ _ _ _ _ _ _ _ _ _ hst ⟨#[101, 120, 112, 101, 99, 116, 101, 100, 32, 116, 97, 103, 32, 107, 101, 121, 32, 111, 114, 32, 102, 105, 101, 108, 100, 32, 98, 117, 116, 32, 102, 111, 117, 110, 100, 32, 46, 46, 32, 105, 110, 115, 116, 101, 97, 100]⟩
   refine pC Tryz.func49 hcon ?_
   rintro e w ⟨gn105, eb', D', E', L', rfl, hst', hr', hgn105, mgn105⟩
   refine ⟨_, rfl, ?_⟩
   replace hr := hr.trans hr'
   replace hA77 := hA77.rel hr'
   replace hgs75 := hr'.mem hgs75
   replace hge76 := hr'.mem hge76
   clear hst hr' hcon; have hst := hst'; clear hst'
   have hpX := hst.pX
   have hcon := dec.hb.synS _ _ _ _ _ _ _ _ _ _ _ _ _ _ hst (hB.up (by omega) (by omega)) p gn105 (by omega) (by omega) hgn105 ⟨_, _, mgn105⟩
   refine pC Tryz.func48 hcon ?_
   rintro e w ⟨err, eb', D', E', L', rfl, hst', hr', hflt⟩
   refine ⟨_, rfl, ?_⟩
   replace hr := hr.trans hr'
   replace hA77 := hA77.rel hr'
   replace hgs75 := hr'.mem hgs75
   replace hge76 := hr'.mem hge76
   replace mgn105 := hr'.mem mgn105
   clear hst hr' hcon; have hst := hst'; clear hst'
   refine pM 3 rfl (pL (pT (pZ (pU ?_))))
   have hR : tagP X p line = ⟨none, some (flt X p (tkQ 1 2 X p) line), (tkQ 1 2 X p), 4, line⟩ := (if_neg hn1).trans ((if_neg (tru_ne hvA77)).trans ((if_pos h13)))
   intro a S
   rw [hR]
   exact r_ret3 S rfl rfl rfl rfl ⟨_, _, _, eb', D', E', L', rfl, (hst.le 0 (Nat.zero_le _)).leK _ (by omega), hr, ⟨.inr ⟨_, rfl, hflt⟩, fun h => by cases h⟩⟩
  have c95 := not_eq_false_ bc95
  have c95 := of_decide_eq_true c95
  revert a;refine pN bc95 (pP (p_move rfl) rfl (pN bc95 ?_))
  have hpX := hst.pX
  have hcon := dec.hb.atS _ _ _ _ _ _ _ _ _ _ _ _ _ _ hst (by omega)
  refine pC Tryz.func39 hcon ?_
  rintro e w ⟨eb', D', E', L', rfl, hst', hr'⟩
  refine ⟨_, rfl, ?_⟩
  replace hr := hr.trans hr'
  replace hA77 := hA77.rel hr'
  replace hgs75 := hr'.mem hgs75
  replace hge76 := hr'.mem hge76
  clear hst hr' hcon; have hst := hst'; clear hst'
  refine pN bc95 (pP (p_neq rfl rfl) rfl (pP (p_pick_f rfl bc95 rfl) rfl (pL (pT (zc rfl (fun bc107 => ?_) (fun bc107 => ?_))))))
  ·
   have c107 := bne_iff_ne.1 bc107
   have h13 : ((tkT 1 2 X p) = [] ∨ X.length ≤ (tkQ 1 2 X p) ∨ X.getD (tkQ 1 2 X p) 0 ≠ 61) := .inr (.inr c107)
   refine pS (pS (pG (pM 1 rfl ?_)))
   have hcon := dec.hb.ensS _ _ _ _ _ _ _ _ _ _ _ _ _ _ hst hW
   refine pC Tryz.func22 hcon ?_
   rintro e w ⟨eb', D', E', L', rfl, hst', hr'⟩
   refine ⟨_, rfl, ?_⟩
   replace hr := hr.trans hr'
   replace hA77 := hA77.rel hr'
   replace hgs75 := hr'.mem hgs75
   replace hge76 := hr'.mem hge76
   clear hst hr' hcon; have hst := hst'; clear hst'
   refine pP (p_not rfl) rfl (pL (pT (zc rfl (fun bc110 => ?_) (fun bc110 => ?_))))
   ·
    have c110 := not_eq_true_ bc110
    have c110 := of_decide_eq_false c110
    refine pS (pG (pM 2 rfl ?_))
    have hcon := dec.hb.errS _ _ _ _ _ _ _ _ _ _ _ _ _ _ hst ⟨#[101, 109, 112, 116, 121, 32, 116, 97, 103, 32, 110, 97, 109, 101]⟩
    refine pC Tryz.func49 hcon ?_
    rintro e w ⟨gn111, eb', D', E', L', rfl, hst', hr', hgn111, mgn111⟩
    refine ⟨_, rfl, ?_⟩
    replace hr := hr.trans hr'
    replace hA77 := hA77.rel hr'
    replace hgs75 := hr'.mem hgs75
    replace hge76 := hr'.mem hge76
    clear hst hr' hcon; have hst := hst'; clear hst'
    have hpX := hst.pX
    have hcon := dec.hb.synS _ _ _ _ _ _ _ _ _ _ _ _ _ _ hst (hB.up (by omega) (by omega)) p gn111 (by omega) (by omega) hgn111 ⟨_, _, mgn111⟩
    refine pC Tryz.func48 hcon ?_
    rintro e w ⟨err, eb', D', E', L', rfl, hst', hr', hflt⟩
    refine ⟨_, rfl, ?_⟩
    replace hr := hr.trans hr'
    replace hA77 := hA77.rel hr'
    replace hgs75 := hr'.mem hgs75
    replace hge76 := hr'.mem hge76
    replace mgn111 := hr'.mem mgn111
    clear hst hr' hcon; have hst := hst'; clear hst'
    refine pM 3 rfl (pL (pT (pZ (pU (pU ?_)))))
    have hR : tagP X p line = ⟨none, some (flt X p (tkQ 1 2 X p) line), (tkQ 1 2 X p), 4, line⟩ := (if_neg hn1).trans ((if_neg (tru_ne hvA77)).trans ((if_pos h13)))
    intro a S
    rw [hR]
    exact r_ret3 S rfl rfl rfl rfl ⟨_, _, _, eb', D', E', L', rfl, (hst.le 0 (Nat.zero_le _)).leK _ (by omega), hr, ⟨.inr ⟨_, rfl, hflt⟩, fun h => by cases h⟩⟩
   have c110 := not_eq_false_ bc110
   have c110 := of_decide_eq_true c110
   refine pK (pT (pS (pS (pG (pM 1 rfl (pP (p_len Tryz.underlying23 rfl) rfl (pP (p_gtr rfl rfl) rfl (pL (pT (zc rfl (fun bc113 => ?_) (fun bc113 => ?_)))))))))))
   ·
    have c113 := of_decide_eq_true bc113
    refine pS (pG (pM 2 rfl ?_))
    have hcon := dec.hb.errS _ _ _ _ _ _ _ _ _ _ _ _ _ _ hst ⟨#[101, 120, 112, 101, 99, 116, 101, 100, 32, 39, 61, 39, 32, 97, 102, 116, 101, 114, 32, 116, 97, 103, 32, 107, 101, 121, 32, 46, 46, 44, 32, 98, 117, 116, 32, 103, 111, 116, 32, 46, 46, 32, 105, 110, 115, 116, 101, 97, 100]⟩
    refine pC Tryz.func49 hcon ?_
    rintro e w ⟨gn114, eb', D', E', L', rfl, hst', hr', hgn114, mgn114⟩
    refine ⟨_, rfl, ?_⟩
    replace hr := hr.trans hr'
    replace hA77 := hA77.rel hr'
    replace hgs75 := hr'.mem hgs75
    replace hge76 := hr'.mem hge76
    clear hst hr' hcon; have hst := hst'; clear hst'
    have hpX := hst.pX
    have hcon := dec.hb.synS _ _ _ _ _ _ _ _ _ _ _ _ _ _ hst (hB.up (by omega) (by omega)) p gn114 (by omega) (by omega) hgn114 ⟨_, _, mgn114⟩
    refine pC Tryz.func48 hcon ?_
    rintro e w ⟨err, eb', D', E', L', rfl, hst', hr', hflt⟩
    refine ⟨_, rfl, ?_⟩
    replace hr := hr.trans hr'
    replace hA77 := hA77.rel hr'
    replace hgs75 := hr'.mem hgs75
    replace hge76 := hr'.mem hge76
    replace mgn114 := hr'.mem mgn114
    clear hst hr' hcon; have hst := hst'; clear hst'
    refine pM 3 rfl (pL (pT (pZ (pU (pU ?_)))))
    have hR : tagP X p line = ⟨none, some (flt X p (tkQ 1 2 X p) line), (tkQ 1 2 X p), 4, line⟩ := (if_neg hn1).trans ((if_neg (tru_ne hvA77)).trans ((if_pos h13)))
    intro a S
    rw [hR]
    exact r_ret3 S rfl rfl rfl rfl ⟨_, _, _, eb', D', E', L', rfl, (hst.le 0 (Nat.zero_le _)).leK _ (by omega), hr, ⟨.inr ⟨_, rfl, hflt⟩, fun h => by cases h⟩⟩
   have c113 := of_decide_eq_false bc113
   refine pK (pT (pS (pG (pM 2 rfl ?_))))
   have hcon := dec.hb.errS _ _ _ _ _ _ _ _ _ _ _ _ _ _ hst ⟨#[101, 120, 112, 101, 99, 116, 101, 100, 32, 116, 97, 103, 32, 107, 101, 121, 32, 111, 114, 32, 102, 105, 101, 108, 100, 32, 98, 117, 116, 32, 102, 111, 117, 110, 100, 32, 46, 46, 32, 105, 110, 115, 116, 101, 97, 100]⟩
   refine pC Tryz.func49 hcon ?_
   rintro e w ⟨gn115, eb', D', E', L', rfl, hst', hr', hgn115, mgn115⟩
   refine ⟨_, rfl, ?_⟩
   replace hr := hr.trans hr'
   replace hA77 := hA77.rel hr'
   replace hgs75 := hr'.mem hgs75
   replace hge76 := hr'.mem hge76
   clear hst hr' hcon; have hst := hst'; clear hst'
   have hpX := hst.pX
   have hcon := dec.hb.synS _ _ _ _ _ _ _ _ _ _ _ _ _ _ hst (hB.up (by omega) (by omega)) p gn115 (by omega) (by omega) hgn115 ⟨_, _, mgn115⟩
   refine pC Tryz.func48 hcon ?_
   rintro e w ⟨err, eb', D', E', L', rfl, hst', hr', hflt⟩
   refine ⟨_, rfl, ?_⟩
   replace hr := hr.trans hr'
   replace hA77 := hA77.rel hr'
   replace hgs75 := hr'.mem hgs75
   replace hge76 := hr'.mem hge76
   replace mgn115 := hr'.mem mgn115
   clear hst hr' hcon; have hst := hst'; clear hst'
   refine pM 3 rfl (pL (pT (pZ (pU ?_))))
   have hR : tagP X p line = ⟨none, some (flt X p (tkQ 1 2 X p) line), (tkQ 1 2 X p), 4, line⟩ := (if_neg hn1).trans ((if_neg (tru_ne hvA77)).trans ((if_pos h13)))
   intro a S
   rw [hR]
   exact r_ret3 S rfl rfl rfl rfl ⟨_, _, _, eb', D', E', L', rfl, (hst.le 0 (Nat.zero_le _)).leK _ (by omega), hr, ⟨.inr ⟨_, rfl, hflt⟩, fun h => by cases h⟩⟩
  have c107 := bne_eq_false_iff_eq.1 bc107
  have hn13 : ¬ ((tkT 1 2 X p) = [] ∨ X.length ≤ (tkQ 1 2 X p) ∨ X.getD (tkQ 1 2 X p) 0 ≠ 61) := by
   rintro (h | h | h)
   ·
    exact c81 (by rw [h]; rfl)
   ·
    omega
   ·
    exact h c107
  refine pK (pT (pS (pG (pM 1 rfl ?_))))
  have hpX := hst.pX
  have hcon := dec.hb.advS _ _ _ _ _ _ _ _ _ _ _ _ _ _ hst (by omega)
  refine pC Tryz.func42 hcon ?_
  rintro e w ⟨eb', D', E', L', rfl, hst', hr'⟩
  refine ⟨_, rfl, ?_⟩
  replace hr := hr.trans hr'
  replace hA77 := hA77.rel hr'
  replace hgs75 := hr'.mem hgs75
  replace hge76 := hr'.mem hge76
  clear hst hr' hcon; have hst := hst'; clear hst'
  refine pL (pT (pS (pG (pM 1 rfl ?_))))
  have hcon := dec.hb.s6 _ _ _ _ _ _ _ _ _ _ _ _ _ _ hst
  refine pC Tryz.func55 hcon ?_
  rintro e w ⟨gs116, eb', D', E', L', rfl, hst', hr', hgs116⟩
  refine ⟨_, rfl, ?_⟩
  replace hr := hr.trans hr'
  replace hA77 := hA77.rel hr'
  replace hgs75 := hr'.mem hgs75
  replace hge76 := hr'.mem hge76
  clear hst hr' hcon; have hst := hst'; clear hst'
  have hcon := dec.hb.e2 _ _ _ _ _ _ _ _ _ _ _ _ _ _ hst
  refine pC Tryz.func56 hcon ?_
  rintro e w ⟨ge117, eb', D', E', L', rfl, hst', hr', hge117⟩
  refine ⟨_, rfl, ?_⟩
  replace hr := hr.trans hr'
  replace hA77 := hA77.rel hr'
  replace hgs75 := hr'.mem hgs75
  replace hge76 := hr'.mem hge76
  replace hgs116 := hr'.mem hgs116
  clear hst hr' hcon; have hst := hst'; clear hst'
  refine pP (p_nilCheck rfl) rfl (pA fa96_1 rfl rfl rfl ?_)
  have hpA118 := hst.pX
  have hcon := dec.hb.escS_ _ _ _ _ _ _ _ _ _ _ _ _ _ _ hst hW (hB.up (by omega) (by omega)) rfl gs116 6 hgs116 ge117 2 (by decide) hge117
  refine pC Tryz.func45 hcon ?_
  rintro e w ⟨A118, cA118, err, sec', eb', D', E', L', rfl, hst', hr', hA118, hcA118, hf⟩
  refine ⟨_, rfl, ?_⟩
  replace hr := hr.trans hr'
  replace hA77 := hA77.rel hr'
  replace hgs75 := hr'.mem hgs75
  replace hge76 := hr'.mem hge76
  replace hgs116 := hr'.mem hgs116
  replace hge117 := hr'.mem hge117
  clear hst hr' hcon; have hst := hst'; clear hst'
  have hqA118 := tkQ_le (k := 2) (s := 6) hpA118
  rcases hf with ⟨hvA118, rfl, rfl⟩ | ⟨hvA118, rfl, hflt⟩
  ·
   replace hst : ST TY 5 wb w g X ((tkQ 2 6 X ((tkQ 1 2 X p) + 1))) ((tkQ 2 6 X ((tkQ 1 2 X p) + 1))) 1 false line eb' (((K + 8000) + 8000)) D' E' L' := hst
   refine pM 7 rfl (pL (pT (pS (pS (pG (pM 1 rfl (pP (p_nilnilN mi51 rfl) rfl (pL (pT (zf (pK (pT (pS (pS (pG (pM 1 rfl (pP (p_len Tryz.underlying23 rfl) rfl (pP (p_eql rfl rfl) rfl (pL (pT (zc rfl (fun bc122 => ?_) (fun bc122 => ?_))))))))))))))))))))))
   ·
    have c122 := eq_of_beq bc122
    refine pS (pG (pM 2 rfl ?_))
    have hcon := dec.hb.errS _ _ _ _ _ _ _ _ _ _ _ _ _ _ hst ⟨#[101, 120, 112, 101, 99, 116, 101, 100, 32, 116, 97, 103, 32, 118, 97, 108, 117, 101, 32, 97, 102, 116, 101, 114, 32, 116, 97, 103, 32, 107, 101, 121, 32, 46, 46, 44, 32, 98, 117, 116, 32, 110, 111, 110, 101, 32, 102, 111, 117, 110, 100]⟩
    refine pC Tryz.func49 hcon ?_
    rintro e w ⟨gn123, eb', D', E', L', rfl, hst', hr', hgn123, mgn123⟩
    refine ⟨_, rfl, ?_⟩
    replace hr := hr.trans hr'
    replace hA77 := hA77.rel hr'
    replace hA118 := hA118.rel hr'
    replace hgs75 := hr'.mem hgs75
    replace hge76 := hr'.mem hge76
    replace hgs116 := hr'.mem hgs116
    replace hge117 := hr'.mem hge117
    clear hst hr' hcon; have hst := hst'; clear hst'
    have hpX := hst.pX
    have hcon := dec.hb.synS _ _ _ _ _ _ _ _ _ _ _ _ _ _ hst (hB.up (by omega) (by omega)) ((tkQ 1 2 X p) + 1) gn123 (by omega) (by omega) hgn123 ⟨_, _, mgn123⟩
    refine pC Tryz.func48 hcon ?_
    rintro e w ⟨err, eb', D', E', L', rfl, hst', hr', hflt⟩
    refine ⟨_, rfl, ?_⟩
    replace hr := hr.trans hr'
    replace hA77 := hA77.rel hr'
    replace hA118 := hA118.rel hr'
    replace hgs75 := hr'.mem hgs75
    replace hge76 := hr'.mem hge76
    replace hgs116 := hr'.mem hgs116
    replace hge117 := hr'.mem hge117
    replace mgn123 := hr'.mem mgn123
    clear hst hr' hcon; have hst := hst'; clear hst'
    refine pM 3 rfl (pL (pT (pZ (pU ?_))))
    have hR : tagP X p line = ⟨none, some (flt X ((tkQ 1 2 X p) + 1) (tkQ 2 6 X ((tkQ 1 2 X p) + 1)) line), (tkQ 2 6 X ((tkQ 1 2 X p) + 1)), 4, line⟩ := (if_neg hn1).trans ((if_neg (tru_ne hvA77)).trans ((if_neg hn13).trans ((if_neg (tru_ne hvA118)).trans ((if_pos (List.length_eq_zero_iff.1 (by omega)))))))
    intro a S
    rw [hR]
    exact r_ret3 S rfl rfl rfl rfl ⟨_, _, _, eb', D', E', L', rfl, (hst.le 0 (Nat.zero_le _)).leK _ (by omega), hr, ⟨.inr ⟨_, rfl, hflt⟩, fun h => by cases h⟩⟩
   have c122 := ne_of_beq_false bc122
   refine pK (pT (pS (pS (pG (pM 1 rfl ?_)))))
   have hcon := dec.hb.ensS _ _ _ _ _ _ _ _ _ _ _ _ _ _ hst hW
   refine pC Tryz.func22 hcon ?_
   rintro e w ⟨eb', D', E', L', rfl, hst', hr'⟩
   refine ⟨_, rfl, ?_⟩
   replace hr := hr.trans hr'
   replace hA77 := hA77.rel hr'
   replace hA118 := hA118.rel hr'
   replace hgs75 := hr'.mem hgs75
   replace hge76 := hr'.mem hge76
   replace hgs116 := hr'.mem hgs116
   replace hge117 := hr'.mem hge117
   clear hst hr' hcon; have hst := hst'; clear hst'
   refine pP (p_not rfl) rfl (pL (pT (zc rfl (fun bc126 => ?_) (fun bc126 => ?_))))
   ·
    have c126 := not_eq_true_ bc126
    have c126 := of_decide_eq_false c126
    refine pS (pG ?_)
    obtain ⟨v, cm, M, hD, hV, heb, H⟩ := id hst
    obtain ⟨rd, A, l, c, r0, mb, mr, hDe, hbuf, hrd, hr0, hvX, hdr, hsz, hpX⟩ := id hD
    rw [hDe] at H
    replace H := dc.open_.1 H
    clear hst hD
    refine pM 2 rfl (pA fa58_5 rfl rfl rfl (pE H rfl rfl rfl .here (by first | decide | simp [Value.cells]) sz54 ?_));clear H;intro w H
    refine pL ?_
    obtain ⟨D', hst', hr'⟩ : ∃ D'', ST TY 5 wb _ g X ((tkQ 2 6 X ((tkQ 1 2 X p) + 1))) ((min ((tkQ 2 6 X ((tkQ 1 2 X p) + 1)) + 1) X.length)) 2 false line eb' (((K + 8000) + 8000)) D'' E' L' ∧ Rel D' E' L' eb' D'' E' L' eb' := ⟨_, ⟨v, cm, M, ⟨rd, A, l, c, r0, mb, mr, rfl, hbuf, hrd, hr0, hvX, hdr, hsz, hpX⟩, hV, heb, dc.open_.2 H⟩, by rw [hDe]; exact (Rel.refl _ _ _ _).head rfl⟩
    clear H hbuf hrd hr0 hvX hdr hsz hV heb hpX hDe; have hcon := hst'; have hst := hst'
    replace hr := hr.trans hr'
    replace hA77 := hA77.rel hr'
    replace hA118 := hA118.rel hr'
    replace hgs75 := hr'.mem hgs75
    replace hge76 := hr'.mem hge76
    replace hgs116 := hr'.mem hgs116
    replace hge117 := hr'.mem hge117
    clear hst hr' hcon; have hst := hst'; clear hst'
    refine pT (pS (pG (pM 5 rfl (pL (pT (pZ (pU ?_)))))))
    have hR : tagP X p line = ⟨some ((tkT 1 2 X p), (tkT 2 6 X ((tkQ 1 2 X p) + 1))), none, (tkQ 2 6 X ((tkQ 1 2 X p) + 1)), 2, line⟩ := (if_neg hn1).trans ((if_neg (tru_ne hvA77)).trans ((if_neg hn13).trans ((if_neg (tru_ne hvA118)).trans ((if_neg (fun h => c122 (by rw [h]; rfl))).trans ((if_pos (by omega)))))))
    intro a S
    rw [hR]
    exact r_ret3 S rfl rfl rfl rfl ⟨_, _, _, eb', D', E', L', rfl, (hst.le 0 (Nat.zero_le _)).leK _ (by omega), hr, ⟨.inl ⟨rfl, rfl⟩, fun _ => .inr ⟨_, rfl, sl_ne hA77 hcA77, fun h => hn13 (.inl h), sl_ne hA118 hcA118⟩⟩⟩
   have c126 := not_eq_false_ bc126
   have c126 := of_decide_eq_true c126
   refine pK (pT (pS (pS (pG (pM 1 rfl ?_)))))
   have hcon := dec.hc.comS _ _ _ _ _ _ _ _ _ _ _ _ _ _ hst hW (hB.up (by omega) (by omega))
   refine pC Tryz.func50 hcon ?_
   rintro e w ⟨err, eb', D', E', L', rfl, hst', hr', her⟩
   refine ⟨_, rfl, ?_⟩
   replace hr := hr.trans hr'
   replace hA77 := hA77.rel hr'
   replace hA118 := hA118.rel hr'
   replace hgs75 := hr'.mem hgs75
   replace hge76 := hr'.mem hge76
   replace hgs116 := hr'.mem hgs116
   replace hge117 := hr'.mem hge117
   clear hst hr' hcon; have hst := hst'; clear hst'
   rcases her with ⟨hcf, rfl⟩ | ⟨fx, hcf, hflt⟩
   ·
    have hc2 := ite_none hcf
    replace hst : ST TY 5 wb w g X ((comma X (tkQ 2 6 X ((tkQ 1 2 X p) + 1))).1) 0 1 false line eb' (((K + 8000) + 8000)) D' E' L' := by rw [hc2] at hst; exact hst
    refine pM 1 rfl (pL (pT (pS (pG (pM 1 rfl (pP (p_nilnilN mi51 rfl) rfl (pL (pT (zf (pK (pT (pS (pG (pM 5 rfl (pL (pT (pZ ?_)))))))))))))))))
    have hR : tagP X p line = ⟨some ((tkT 1 2 X p), (tkT 2 6 X ((tkQ 1 2 X p) + 1))), none, (comma X (tkQ 2 6 X ((tkQ 1 2 X p) + 1))).1, 1, line⟩ := (if_neg hn1).trans ((if_neg (tru_ne hvA77)).trans ((if_neg hn13).trans ((if_neg (tru_ne hvA118)).trans ((if_neg (fun h => c122 (by rw [h]; rfl))).trans ((if_neg (by omega)).trans ((if_neg (by rw [hc2]; decide))))))))
    intro a S
    rw [hR]
    exact r_ret3 S rfl rfl rfl rfl ⟨_, _, _, eb', D', E', L', rfl, (hst.le 0 (Nat.zero_le _)).leK _ (by omega), hr, ⟨.inl ⟨rfl, rfl⟩, fun _ => .inr ⟨_, rfl, sl_ne hA77 hcA77, fun h => hn13 (.inl h), sl_ne hA118 hcA118⟩⟩⟩
   obtain ⟨hc2, rfl⟩ := ite_some hcf
   obtain ⟨gf, gn', rfl, hf1, hf2⟩ := id hflt
   replace hst : ST TY 5 wb w g X ((comma X (tkQ 2 6 X ((tkQ 1 2 X p) + 1))).1) 0 ((fsec 1)) false line eb' (((K + 8000) + 8000)) D' E' L' := by rw [hc2] at hst; exact hst
   refine pM 1 rfl (pL (pT (pS (pG (pM 1 rfl (pP (p_ifnilN mi51 rfl rfl) rfl (pL (pT (zt (pS (pG (pM 4 rfl (pL (pT (pZ (pU ?_))))))))))))))))
   have hR : tagP X p line = ⟨none, some (flt X (comma X (tkQ 2 6 X ((tkQ 1 2 X p) + 1))).1 (comma X (tkQ 2 6 X ((tkQ 1 2 X p) + 1))).1 line), (comma X (tkQ 2 6 X ((tkQ 1 2 X p) + 1))).1, 4, line⟩ := (if_neg hn1).trans ((if_neg (tru_ne hvA77)).trans ((if_neg hn13).trans ((if_neg (tru_ne hvA118)).trans ((if_neg (fun h => c122 (by rw [h]; rfl))).trans ((if_neg (by omega)).trans ((if_pos hc2)))))))
   intro a S
   rw [hR]
   exact r_ret3 S rfl rfl rfl rfl ⟨_, _, _, eb', D', E', L', rfl, (hst.le 0 (Nat.zero_le _)).leK _ (by omega), hr, ⟨.inr ⟨_, rfl, hflt⟩, fun h => by cases h⟩⟩
  replace hst : ST TY 5 wb w g X ((tkQ 2 6 X ((tkQ 1 2 X p) + 1))) ((tkQ 2 6 X ((tkQ 1 2 X p) + 1))) ((fsec 1)) false line eb' (((K + 8000) + 8000)) D' E' L' := hst
  replace hflt : FaultAt 104 101 118 wb.heap.size L' err (flt X ((tkQ 1 2 X p) + 1) (tkQ 2 6 X ((tkQ 1 2 X p) + 1)) line) := hflt
  obtain ⟨gf, gn', rfl, hf1, hf2⟩ := id hflt
  refine pM 7 rfl (pL (pT (pS (pS (pG (pM 1 rfl (pP (p_ifnilN mi51 rfl rfl) rfl (pL (pT (zt (pS (pG (pM 4 rfl (pL (pT (pZ (pU ?_)))))))))))))))))
  have hR : tagP X p line = ⟨none, some (flt X ((tkQ 1 2 X p) + 1) (tkQ 2 6 X ((tkQ 1 2 X p) + 1)) line), (tkQ 2 6 X ((tkQ 1 2 X p) + 1)), 4, line⟩ := (if_neg hn1).trans ((if_neg (tru_ne hvA77)).trans ((if_neg hn13).trans ((if_pos hvA118))))
  intro a S
  rw [hR]
  exact r_ret3 S rfl rfl rfl rfl ⟨_, _, _, eb', D', E', L', rfl, (hst.le 0 (Nat.zero_le _)).leK _ (by omega), hr, ⟨.inr ⟨_, rfl, hflt⟩, fun h => by cases h⟩⟩
 replace hst : ST TY 5 wb w g X ((tkQ 1 2 X p)) ((tkQ 1 2 X p)) ((fsec 1)) false line eb' ((K + 8000)) D' E' L' := hst
 replace hflt : FaultAt 104 101 118 wb.heap.size L' err (flt X p (tkQ 1 2 X p) line) := hflt
 obtain ⟨gf, gn', rfl, hf1, hf2⟩ := id hflt
 refine pM 7 rfl (pL (pT (pS (pS (pG (pM 1 rfl (pP (p_ifnilN mi51 rfl rfl) rfl (pL (pT (zt (pS (pG (pM 4 rfl (pL (pT (pZ (pU ?_)))))))))))))))))
 have hR : tagP X p line = ⟨none, some (flt X p (tkQ 1 2 X p) line), (tkQ 1 2 X p), 4, line⟩ := (if_neg hn1).trans ((if_pos hvA77))
 intro a S
 rw [hR]
 exact r_ret3 S rfl rfl rfl rfl ⟨_, _, _, eb', D', E', L', rfl, (hst.le 0 (Nat.zero_le _)).leK _ (by omega), hr, ⟨.inr ⟨_, rfl, hflt⟩, fun h => by cases h⟩⟩
end hi
end Go.Proofs.YtbahngfpadjbhaaGreatDoor.dec
end
