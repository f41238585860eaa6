/- Part of the proof that FnDecodeCRLF answers true at every text, in every world that its card's statement admits; no condition beyond those. -/
import Derived.Test.YtbahngfpadjbhaaGreatDoorR13
import Derived.Test.YtbahngfpadjbhaaGreatDoorR05
import Derived.Test.YtbahngfpadjbhaaGreatDoorR04
set_option linter.unusedVariables false
set_option linter.unusedSimpArgs false
section
namespace Go.Proofs.YtbahngfpadjbhaaGreatDoor.dec
open Go.Proofs.YtbahngfpadjbhaaGreatDoor.fx
open Go.RowKit Go.Proofs.HHW Go.Proofs.YtbahngfpadjbhaaGreatDoorW.PrintWords Go.Proofs.YtbahngfpadjbhaaGreatDoor.dt
namespace hl
set_option maxHeartbeats 1000000 in
theorem fieldN3 (wb w0 : World) (g : Nat) (X : List Int) (p V : Nat) (line : Nat) (eb : Value) (K : Nat) (D E L : dc.Bk) (hst : ST TY 5 wb w0 g X p V 3 false line eb K D E L)  : Calls Tryz.prog 26 #[.pointer (some ⟨g, 0, none⟩)] w0 fun e w' => ∃ (eb' : Value) (D' E' L' : dc.Bk), e = .returned (.tuple #[.slice none 0 0, .int .u8 0, .slice none 0 0, .nilIface]) ∧ ST TY 5 wb w' g X p V 3 false line eb' K D' E' L' ∧ Rel D E L eb D' E' L' eb' := by
 obtain ⟨eb', D', E', L', hst, hr⟩ : ∃ (eb' : Value) (D' E' L' : dc.Bk), ST TY 5 wb w0 g X p V 3 false line eb' K D' E' L' ∧ Rel D E L eb D' E' L' eb' := ⟨eb, D, E, L, hst, Rel.refl _ _ _ _⟩
 refine c_enter (args := [.pointer (some ⟨g, 0, none⟩)]) (k := 243) Tryz.func26 rfl rfl rfl ?_
 refine pS (pG (pM 4 rfl (pL (pT (pS (pS (pG (pM 1 rfl ?_))))))))
 have hcon := dec.hf.secS _ _ _ _ _ _ _ _ _ _ _ _ _ _ hst 2 (by decide)
 rw [show decide ((3 : Int) = 2) = false from rfl] at hcon
 refine pC Tryz.func20 hcon ?_
 rintro e w ⟨eb', D', E', L', rfl, hst', hr'⟩
 refine ⟨_, rfl, ?_⟩
 replace hr := hr.trans hr'
 clear hst hr' hcon; have hst := hst'; clear hst'
 refine pM 5 rfl (pL (pT (pS (pG (pM 1 rfl (pP (p_nilnilN mi51 rfl) rfl (pL (pT (zf (pS (pG (pM 1 rfl (pP (p_not rfl) rfl (pL (pT (zt (pS (pG (pM 4 rfl (pL (pT (pZ (pU ?_)))))))))))))))))))))));intro a S
 exact r_ret4 S rfl rfl rfl rfl rfl ⟨eb', D', E', L', rfl, hst, hr⟩
set_option maxHeartbeats 1000000 in
theorem fieldN5 (wb w0 : World) (g : Nat) (X : List Int) (p V : Nat) (line : Nat) (eb : Value) (K : Nat) (D E L : dc.Bk) (hst : ST TY 5 wb w0 g X p V 5 false line eb K D E L)  : Calls Tryz.prog 26 #[.pointer (some ⟨g, 0, none⟩)] w0 fun e w' => ∃ (eb' : Value) (D' E' L' : dc.Bk), e = .returned (.tuple #[.slice none 0 0, .int .u8 0, .slice none 0 0, .nilIface]) ∧ ST TY 5 wb w' g X p V 5 false line eb' K D' E' L' ∧ Rel D E L eb D' E' L' eb' := by
 obtain ⟨eb', D', E', L', hst, hr⟩ : ∃ (eb' : Value) (D' E' L' : dc.Bk), ST TY 5 wb w0 g X p V 5 false line eb' K D' E' L' ∧ Rel D E L eb D' E' L' eb' := ⟨eb, D, E, L, hst, Rel.refl _ _ _ _⟩
 refine c_enter (args := [.pointer (some ⟨g, 0, none⟩)]) (k := 243) Tryz.func26 rfl rfl rfl ?_
 refine pS (pG (pM 4 rfl (pL (pT (pS (pS (pG (pM 1 rfl ?_))))))))
 have hcon := dec.hf.secS _ _ _ _ _ _ _ _ _ _ _ _ _ _ hst 2 (by decide)
 rw [show decide ((5 : Int) = 2) = false from rfl] at hcon
 refine pC Tryz.func20 hcon ?_
 rintro e w ⟨eb', D', E', L', rfl, hst', hr'⟩
 refine ⟨_, rfl, ?_⟩
 replace hr := hr.trans hr'
 clear hst hr' hcon; have hst := hst'; clear hst'
 refine pM 5 rfl (pL (pT (pS (pG (pM 1 rfl (pP (p_nilnilN mi51 rfl) rfl (pL (pT (zf (pS (pG (pM 1 rfl (pP (p_not rfl) rfl (pL (pT (zt (pS (pG (pM 4 rfl (pL (pT (pZ (pU ?_)))))))))))))))))))))));intro a S
 exact r_ret4 S rfl rfl rfl rfl rfl ⟨eb', D', E', L', rfl, hst, hr⟩
set_option maxHeartbeats 1000000 in
theorem fieldS (wb w0 : World) (g : Nat) (X : List Int) (p V : Nat) (line : Nat) (eb : Value) (K : Nat) (D E L : dc.Bk) (hst : ST TY 5 wb w0 g X p V 2 false line eb K D E L) (hW : Wb 118 1 2 3 0 wb) (hB : Bd X line K) (hl5 : line ≤ 50000000) (hK5 : K ≤ 70000000) : Calls Tryz.prog 26 #[.pointer (some ⟨g, 0, none⟩)] w0 fun e w' => ∃ (v kd v' err : Value) (eb' : Value) (D' E' L' : dc.Bk), e = .returned (.tuple #[v, kd, v', err]) ∧ ST TY 5 wb w' g X ((fieldP 1 5 (fun k => k + 1) X p line).p) 0 ((fieldP 1 5 (fun k => k + 1) X p line).sec) false ((fieldP 1 5 (fun k => k + 1) X p line).line) eb' (K + 16000) D' E' L' ∧ Rel D E L eb D' E' L' eb' ∧ FieldR ⟨104, 101, 118⟩ wb.heap.size D' E' L' eb' (fieldP 1 5 (fun k => k + 1) X p line) v kd v' err := by
 obtain ⟨eb', D', E', L', hst, hr⟩ : ∃ (eb' : Value) (D' E' L' : dc.Bk), ST TY 5 wb w0 g X p V 2 false line eb' K D' E' L' ∧ Rel D E L eb D' E' L' eb' := ⟨eb, D, E, L, hst, Rel.refl _ _ _ _⟩
 have hXl := hB.len
 have hpX0 := hst.pX
 refine c_enter (args := [.pointer (some ⟨g, 0, none⟩)]) (k := 243) Tryz.func26 rfl rfl rfl ?_
 refine pS (pG (pM 4 rfl (pL (pT (pS (pS (pG (pM 1 rfl ?_))))))))
 have hcon := dec.hf.secS _ _ _ _ _ _ _ _ _ _ _ _ _ _ hst 2 (by decide)
 rw [show decide ((2 : Int) = 2) = true from rfl] at hcon
 refine pC Tryz.func20 hcon ?_
 rintro e w ⟨eb', D', E', L', rfl, hst', hr'⟩
 refine ⟨_, rfl, ?_⟩
 replace hr := hr.trans hr'
 clear hst hr' hcon; have hst := hst'; clear hst'
 refine pM 5 rfl (pL (pT (pS (pG (pM 1 rfl (pP (p_nilnilN mi51 rfl) rfl (pL (pT (zf (pS (pG (pM 1 rfl (pP (p_not rfl) rfl (pL (pT (zf (pK (pT (pS (pG (pM 1 rfl ?_)))))))))))))))))))))
 have hcon := dec.hb.s7 _ _ _ _ _ _ _ _ _ _ _ _ _ _ hst
 refine pC Tryz.func57 hcon ?_
 rintro e w ⟨gs6, eb', D', E', L', rfl, hst', hr', hgs6⟩
 refine ⟨_, rfl, ?_⟩
 replace hr := hr.trans hr'
 clear hst hr' hcon; have hst := hst'; clear hst'
 have hcon := dec.hb.e3 _ _ _ _ _ _ _ _ _ _ _ _ _ _ hst
 refine pC Tryz.func58 hcon ?_
 rintro e w ⟨ge7, eb', D', E', L', rfl, hst', hr', hge7⟩
 refine ⟨_, rfl, ?_⟩
 replace hr := hr.trans hr'
 replace hgs6 := hr'.mem hgs6
 clear hst hr' hcon; have hst := hst'; clear hst'
 refine pP (p_nilCheck rfl) rfl (pA fa96_1 rfl rfl rfl ?_)
 have hpA8 := hst.pX
 have hcon := dec.hb.escS_ _ _ _ _ _ _ _ _ _ _ _ _ _ _ hst hW (hB) rfl gs6 7 hgs6 ge7 3 (by decide) hge7
 refine pC Tryz.func45 hcon ?_
 rintro e w ⟨A8, cA8, err, sec', eb', D', E', L', rfl, hst', hr', hA8, hcA8, hf⟩
 refine ⟨_, rfl, ?_⟩
 replace hr := hr.trans hr'
 replace hgs6 := hr'.mem hgs6
 replace hge7 := hr'.mem hge7
 clear hst hr' hcon; have hst := hst'; clear hst'
 have hqA8 := tkQ_le (k := 3) (s := 7) hpA8
 rcases hf with ⟨hvA8, rfl, rfl⟩ | ⟨hvA8, rfl, hflt⟩
 ·
  replace hst : ST TY 5 wb w g X ((tkQ 3 7 X p)) ((tkQ 3 7 X p)) 2 false line eb' ((K + 8000)) D' E' L' := hst
  refine pM 7 rfl (pL (pT (pS (pS (pG (pM 1 rfl (pP (p_nilnilN mi51 rfl) rfl (pL (pT (zf (pK (pT (pS (pS (pG (pM 1 rfl (pP (p_len Tryz.underlying23 rfl) rfl (pP (p_eql rfl rfl) rfl (pL (pT (zc rfl (fun bc12 => ?_) (fun bc12 => ?_))))))))))))))))))))))
  ·
   have c12 := eq_of_beq bc12
   have he2 : (tkT 3 7 X p) = [] := List.length_eq_zero_iff.1 (by omega)
   refine pS (pS (pG (pM 1 rfl ?_)))
   have hcon := dec.hb.ensS _ _ _ _ _ _ _ _ _ _ _ _ _ _ hst hW
   refine pC Tryz.func22 hcon ?_
   rintro e w ⟨eb', D', E', L', rfl, hst', hr'⟩
   refine ⟨_, rfl, ?_⟩
   replace hr := hr.trans hr'
   replace hA8 := hA8.rel hr'
   replace hgs6 := hr'.mem hgs6
   replace hge7 := hr'.mem hge7
   clear hst hr' hcon; have hst := hst'; clear hst'
   refine pP (p_not rfl) rfl (pL (pT (zc rfl (fun bc15 => ?_) (fun bc15 => ?_))))
   ·
    have c15 := not_eq_true_ bc15
    have c15 := of_decide_eq_false c15
    refine pS (pG (pM 2 rfl ?_))
    have hcon := dec.hb.errS _ _ _ _ _ _ _ _ _ _ _ _ _ _ hst ⟨#[101, 120, 112, 101, 99, 116, 101, 100, 32, 102, 105, 101, 108, 100, 32, 107, 101, 121, 32, 98, 117, 116, 32, 110, 111, 110, 101, 32, 102, 111, 117, 110, 100]⟩
    refine pC Tryz.func49 hcon ?_
    rintro e w ⟨gn16, eb', D', E', L', rfl, hst', hr', hgn16, mgn16⟩
    refine ⟨_, rfl, ?_⟩
    replace hr := hr.trans hr'
    replace hA8 := hA8.rel hr'
    replace hgs6 := hr'.mem hgs6
    replace hge7 := hr'.mem hge7
    clear hst hr' hcon; have hst := hst'; clear hst'
    have hpX := hst.pX
    have hcon := dec.hb.synS _ _ _ _ _ _ _ _ _ _ _ _ _ _ hst (hB.up (by omega) (by omega)) p gn16 (by omega) (by omega) hgn16 ⟨_, _, mgn16⟩
    refine pC Tryz.func48 hcon ?_
    rintro e w ⟨err, eb', D', E', L', rfl, hst', hr', hflt⟩
    refine ⟨_, rfl, ?_⟩
    replace hr := hr.trans hr'
    replace hA8 := hA8.rel hr'
    replace hgs6 := hr'.mem hgs6
    replace hge7 := hr'.mem hge7
    replace mgn16 := hr'.mem mgn16
    clear hst hr' hcon; have hst := hst'; clear hst'
    refine pM 4 rfl (pL (pT (pZ (pU (pU ?_)))))
    have hR : fieldP 1 5 (fun k => k + 1) X p line = ⟨none, some (flt X p (tkQ 3 7 X p) line), (tkQ 3 7 X p), 4, line⟩ := (if_neg (tru_ne hvA8)).trans ((if_pos he2))
    intro a S
    rw [hR]
    exact r_ret4 S rfl rfl rfl rfl rfl ⟨_, _, _, _, eb', D', E', L', rfl, (hst.le 0 (Nat.zero_le _)).leK _ (by omega), hr, ⟨.inr ⟨_, rfl, hflt⟩, fun h => by cases h⟩⟩
   have c15 := not_eq_false_ bc15
   have c15 := of_decide_eq_true c15
   refine pK (pT (pS (pG (pM 2 rfl ?_))))
   have hcon := dec.hb.errS _ _ _ _ _ _ _ _ _ _ _ _ _ _ hst ⟨#[105, 110, 118, 97, 108, 105, 100, 32, 99, 104, 97, 114, 97, 99, 116, 101, 114, 32, 46, 46, 32, 102, 111, 117, 110, 100, 32, 97, 116, 32, 115, 116, 97, 114, 116, 32, 111, 102, 32, 102, 105, 101, 108, 100, 32, 107, 101, 121]⟩
   refine pC Tryz.func49 hcon ?_
   rintro e w ⟨gn17, eb', D', E', L', rfl, hst', hr', hgn17, mgn17⟩
   refine ⟨_, rfl, ?_⟩
   replace hr := hr.trans hr'
   replace hA8 := hA8.rel hr'
   replace hgs6 := hr'.mem hgs6
   replace hge7 := hr'.mem hge7
   clear hst hr' hcon; have hst := hst'; clear hst'
   have hpX := hst.pX
   have hcon := dec.hb.synS _ _ _ _ _ _ _ _ _ _ _ _ _ _ hst (hB.up (by omega) (by omega)) p gn17 (by omega) (by omega) hgn17 ⟨_, _, mgn17⟩
   refine pC Tryz.func48 hcon ?_
   rintro e w ⟨err, eb', D', E', L', rfl, hst', hr', hflt⟩
   refine ⟨_, rfl, ?_⟩
   replace hr := hr.trans hr'
   replace hA8 := hA8.rel hr'
   replace hgs6 := hr'.mem hgs6
   replace hge7 := hr'.mem hge7
   replace mgn17 := hr'.mem mgn17
   clear hst hr' hcon; have hst := hst'; clear hst'
   refine pM 4 rfl (pL (pT (pZ (pU ?_))))
   have hR : fieldP 1 5 (fun k => k + 1) X p line = ⟨none, some (flt X p (tkQ 3 7 X p) line), (tkQ 3 7 X p), 4, line⟩ := (if_neg (tru_ne hvA8)).trans ((if_pos he2))
   intro a S
   rw [hR]
   exact r_ret4 S rfl rfl rfl rfl rfl ⟨_, _, _, _, eb', D', E', L', rfl, (hst.le 0 (Nat.zero_le _)).leK _ (by omega), hr, ⟨.inr ⟨_, rfl, hflt⟩, fun h => by cases h⟩⟩
  have c12 := ne_of_beq_false bc12
  have hn2 : ¬ (tkT 3 7 X p) = [] := fun h => c12 (by rw [h]; rfl)
  refine pK (pT (pS (pS (pG (pM 1 rfl ?_)))))
  have hcon := dec.hb.ensS _ _ _ _ _ _ _ _ _ _ _ _ _ _ hst hW
  refine pC Tryz.func22 hcon ?_
  rintro e w ⟨eb', D', E', L', rfl, hst', hr'⟩
  refine ⟨_, rfl, ?_⟩
  replace hr := hr.trans hr'
  replace hA8 := hA8.rel hr'
  replace hgs6 := hr'.mem hgs6
  replace hge7 := hr'.mem hge7
  clear hst hr' hcon; have hst := hst'; clear hst'
  refine pP (p_not rfl) rfl (pL (pT (zc rfl (fun bc20 => ?_) (fun bc20 => ?_))))
  ·
   have c20 := not_eq_true_ bc20
   have c20 := of_decide_eq_false c20
   have he3 : (X.length ≤ (tkQ 3 7 X p) ∨ X.getD (tkQ 3 7 X p) 0 ≠ 61) := .inl (by omega)
   refine pS ?_
   obtain ⟨v, cm, M, hD, hV, heb, H⟩ := id hst
   obtain ⟨rd, A, l, c, r0, mb, mr, hDe, hbuf, hrd, hr0, hvX, hdr, hsz, hpX⟩ := id hD
   rw [hDe] at H
   replace H := dc.open_.1 H
   clear hst hD
   intro a S
   refine d_start (id := 14) [11] 16 (bA 16 0) H rfl rfl rfl (fun w H => ?_)
   revert a;refine qM [0,1,2,5,6] rfl (qA 3 fa58_3 rfl rfl rfl rfl (qE 4 H rfl rfl rfl m0 rfl ag3 rfl (qA 7 fa58_2 rfl rfl rfl rfl (qE 8 H rfl rfl rfl m0 rfl ag3 rfl (qP 9 rfl (p_sub (r := (((tkQ 3 7 X p) : Nat) : Int)) rfl rfl ((IntWalk.i64_in _ (by omega)).trans (by omega))) rfl ?_)))));intro a S
   refine d_call (i := 10) (bA 16 2047) S rfl rfl rfl Tryz.func49 rfl rfl (dec.gt.errNew_ wb _ _ _ ⟨#[119, 97, 110, 116, 32, 39, 61, 39, 32, 97, 102, 116, 101, 114, 32, 102, 105, 101, 108, 100, 32, 107, 101, 121, 32, 46, 46, 44, 32, 102, 111, 117, 110, 100, 32, 101, 110, 100, 32, 111, 102, 32, 105, 110, 112, 117, 116]⟩ H) (wanted_none rfl) rfl rfl (by kernel_rfl) rfl ?_
   rintro e w ⟨gn21, rfl, hH⟩
   have hgn21 := hH.lo _ m0
   refine ⟨_, rfl, hH.tail, ?_⟩; clear H; have H := hH; clear hH;clear S a
   obtain ⟨D', L', hst', hr', mgn21⟩ : ∃ D'' L'', ST TY 5 wb _ g X ((tkQ 3 7 X p)) ((min ((tkQ 3 7 X p) + 1) X.length)) 2 false line eb' ((K + 8000)) D'' E' L'' ∧ Rel D' E' L' eb' D'' E' L'' eb' ∧ (gn21, Obj.cells #[.string ⟨#[119, 97, 110, 116, 32, 39, 61, 39, 32, 97, 102, 116, 101, 114, 32, 102, 105, 101, 108, 100, 32, 107, 101, 121, 32, 46, 46, 44, 32, 102, 111, 117, 110, 100, 32, 101, 110, 100, 32, 111, 102, 32, 105, 110, 112, 117, 116]⟩] 120 (0, 0)) ∈ L'' := ⟨_, _ :: L', ⟨v, cm, M, ⟨rd, A, l, c, r0, mb, mr, rfl, hbuf, hrd, hr0, hvX, hdr, hsz, hpX⟩, hV, heb, HH.errD H⟩, by rw [hDe]; exact ((Rel.refl _ _ _ _).head rfl).trans (Rel.one _), m0⟩
   clear H hbuf hrd hr0 hvX hdr hsz hV heb hpX hDe; have hcon := hst'; have hst := hst'
   replace hr := hr.trans hr'
   replace hA8 := hA8.rel hr'
   replace hgs6 := hr'.mem hgs6
   replace hge7 := hr'.mem hge7
   clear hst hr' hcon; have hst := hst'; clear hst'
   have hpX := hst.pX
   have hcon := dec.hb.synS _ _ _ _ _ _ _ _ _ _ _ _ _ _ hst (hB.up (by omega) (by omega)) (tkQ 3 7 X p) gn21 (by omega) (by omega) hgn21 ⟨_, _, mgn21⟩
   intro a S
   refine d_call_last (i := 11) (bA 16 4095) S rfl rfl rfl Tryz.func48 rfl rfl hcon (wanted_none rfl) rfl rfl (by kernel_rfl) rfl ?_
   rintro e w ⟨err, eb', D', E', L', rfl, hst', hr', hflt⟩
   refine ⟨_, rfl, ?_⟩;clear S a
   replace hr := hr.trans hr'
   replace hA8 := hA8.rel hr'
   replace hgs6 := hr'.mem hgs6
   replace hge7 := hr'.mem hge7
   replace mgn21 := hr'.mem mgn21
   clear hst hr' hcon; have hst := hst'; clear hst'
   refine qM [12,13,14,15] rfl (qD (pT (pZ (pU ?_))))
   have hR : fieldP 1 5 (fun k => k + 1) X p line = ⟨none, some (flt X (tkQ 3 7 X p) (tkQ 3 7 X p) line), (tkQ 3 7 X p), 4, line⟩ := (if_neg (tru_ne hvA8)).trans ((if_neg hn2).trans ((if_pos he3)))
   intro a S
   rw [hR]
   exact r_ret4 S rfl rfl rfl rfl rfl ⟨_, _, _, _, eb', D', E', L', rfl, (hst.le 0 (Nat.zero_le _)).leK _ (by omega), hr, ⟨.inr ⟨_, rfl, hflt⟩, fun h => by cases h⟩⟩
  have c20 := not_eq_false_ bc20
  have c20 := of_decide_eq_true c20
  refine pK (pT (pS (pS (pG (pM 1 rfl ?_)))))
  have hpX := hst.pX
  have hcon := dec.hb.atS _ _ _ _ _ _ _ _ _ _ _ _ _ _ hst (by omega)
  refine pC Tryz.func39 hcon ?_
  rintro e w ⟨eb', D', E', L', rfl, hst', hr'⟩
  refine ⟨_, rfl, ?_⟩
  replace hr := hr.trans hr'
  replace hA8 := hA8.rel hr'
  replace hgs6 := hr'.mem hgs6
  replace hge7 := hr'.mem hge7
  clear hst hr' hcon; have hst := hst'; clear hst'
  refine pM 1 rfl (pL (pT (pS (pG (pM 1 rfl (pP (p_neq rfl rfl) rfl (pL (pT (zc rfl (fun bc23 => ?_) (fun bc23 => ?_))))))))))
  ·
   have c23 := bne_iff_ne.1 bc23
   have he3 : (X.length ≤ (tkQ 3 7 X p) ∨ X.getD (tkQ 3 7 X p) 0 ≠ 61) := .inr c23
   refine pS ?_
   obtain ⟨v, cm, M, hD, hV, heb, H⟩ := id hst
   obtain ⟨rd, A, l, c, r0, mb, mr, hDe, hbuf, hrd, hr0, hvX, hdr, hsz, hpX⟩ := id hD
   rw [hDe] at H
   replace H := dc.open_.1 H
   clear hst hD
   intro a S
   refine d_start (id := 17) [11] 16 (bA 16 0) H rfl rfl rfl (fun w H => ?_)
   revert a;refine qM [0,1,2,5,6] rfl (qA 3 fa58_3 rfl rfl rfl rfl (qE 4 H rfl rfl rfl m0 rfl ag3 rfl (qA 7 fa58_2 rfl rfl rfl rfl (qE 8 H rfl rfl rfl m0 rfl ag3 rfl (qP 9 rfl (p_sub (r := (((tkQ 3 7 X p) : Nat) : Int)) rfl rfl ((IntWalk.i64_in _ (by omega)).trans (by omega))) rfl ?_)))));intro a S
   refine d_call (i := 10) (bA 16 2047) S rfl rfl rfl Tryz.func49 rfl rfl (dec.gt.errNew_ wb _ _ _ ⟨#[119, 97, 110, 116, 32, 39, 61, 39, 32, 97, 102, 116, 101, 114, 32, 102, 105, 101, 108, 100, 32, 107, 101, 121, 32, 46, 46, 44, 32, 102, 111, 117, 110, 100, 32, 46, 46]⟩ H) (wanted_none rfl) rfl rfl (by kernel_rfl) rfl ?_
   rintro e w ⟨gn24, rfl, hH⟩
   have hgn24 := hH.lo _ m0
   refine ⟨_, rfl, hH.tail, ?_⟩; clear H; have H := hH; clear hH;clear S a
   obtain ⟨D', L', hst', hr', mgn24⟩ : ∃ D'' L'', ST TY 5 wb _ g X ((tkQ 3 7 X p)) ((min ((tkQ 3 7 X p) + 1) X.length)) 2 false line eb' ((K + 8000)) D'' E' L'' ∧ Rel D' E' L' eb' D'' E' L'' eb' ∧ (gn24, Obj.cells #[.string ⟨#[119, 97, 110, 116, 32, 39, 61, 39, 32, 97, 102, 116, 101, 114, 32, 102, 105, 101, 108, 100, 32, 107, 101, 121, 32, 46, 46, 44, 32, 102, 111, 117, 110, 100, 32, 46, 46]⟩] 120 (0, 0)) ∈ L'' := ⟨_, _ :: L', ⟨v, cm, M, ⟨rd, A, l, c, r0, mb, mr, rfl, hbuf, hrd, hr0, hvX, hdr, hsz, hpX⟩, hV, heb, HH.errD H⟩, by rw [hDe]; exact ((Rel.refl _ _ _ _).head rfl).trans (Rel.one _), m0⟩
   clear H hbuf hrd hr0 hvX hdr hsz hV heb hpX hDe; have hcon := hst'; have hst := hst'
   replace hr := hr.trans hr'
   replace hA8 := hA8.rel hr'
   replace hgs6 := hr'.mem hgs6
   replace hge7 := hr'.mem hge7
   clear hst hr' hcon; have hst := hst'; clear hst'
   have hpX := hst.pX
   have hcon := dec.hb.synS _ _ _ _ _ _ _ _ _ _ _ _ _ _ hst (hB.up (by omega) (by omega)) (tkQ 3 7 X p) gn24 (by omega) (by omega) hgn24 ⟨_, _, mgn24⟩
   intro a S
   refine d_call_last (i := 11) (bA 16 4095) S rfl rfl rfl Tryz.func48 rfl rfl hcon (wanted_none rfl) rfl rfl (by kernel_rfl) rfl ?_
   rintro e w ⟨err, eb', D', E', L', rfl, hst', hr', hflt⟩
   refine ⟨_, rfl, ?_⟩;clear S a
   replace hr := hr.trans hr'
   replace hA8 := hA8.rel hr'
   replace hgs6 := hr'.mem hgs6
   replace hge7 := hr'.mem hge7
   replace mgn24 := hr'.mem mgn24
   clear hst hr' hcon; have hst := hst'; clear hst'
   refine qM [12,13,14,15] rfl (qD (pT (pZ (pU ?_))))
   have hR : fieldP 1 5 (fun k => k + 1) X p line = ⟨none, some (flt X (tkQ 3 7 X p) (tkQ 3 7 X p) line), (tkQ 3 7 X p), 4, line⟩ := (if_neg (tru_ne hvA8)).trans ((if_neg hn2).trans ((if_pos he3)))
   intro a S
   rw [hR]
   exact r_ret4 S rfl rfl rfl rfl rfl ⟨_, _, _, _, eb', D', E', L', rfl, (hst.le 0 (Nat.zero_le _)).leK _ (by omega), hr, ⟨.inr ⟨_, rfl, hflt⟩, fun h => by cases h⟩⟩
  have c23 := bne_eq_false_iff_eq.1 bc23
  have hn3 : ¬ (X.length ≤ (tkQ 3 7 X p) ∨ X.getD (tkQ 3 7 X p) 0 ≠ 61) := fun h => h.elim (by omega) (fun h => h c23)
  refine pK (pT (pS (pG (pM 1 rfl ?_))))
  have hpX := hst.pX
  have hcon := dec.hb.advS _ _ _ _ _ _ _ _ _ _ _ _ _ _ hst (by omega)
  refine pC Tryz.func42 hcon ?_
  rintro e w ⟨eb', D', E', L', rfl, hst', hr'⟩
  refine ⟨_, rfl, ?_⟩
  replace hr := hr.trans hr'
  replace hA8 := hA8.rel hr'
  replace hgs6 := hr'.mem hgs6
  replace hge7 := hr'.mem hge7
  clear hst hr' hcon; have hst := hst'; clear hst'
  refine pL (pT (pS (pS (pG (pM 1 rfl ?_)))))
  have hcon := dec.hb.ensS _ _ _ _ _ _ _ _ _ _ _ _ _ _ hst hW
  refine pC Tryz.func22 hcon ?_
  rintro e w ⟨eb', D', E', L', rfl, hst', hr'⟩
  refine ⟨_, rfl, ?_⟩
  replace hr := hr.trans hr'
  replace hA8 := hA8.rel hr'
  replace hgs6 := hr'.mem hgs6
  replace hge7 := hr'.mem hge7
  clear hst hr' hcon; have hst := hst'; clear hst'
  refine pP (p_not rfl) rfl (pL (pT (zc rfl (fun bc27 => ?_) (fun bc27 => ?_))))
  ·
   have c27 := not_eq_true_ bc27
   have c27 := of_decide_eq_false c27
   refine pS ?_
   obtain ⟨v, cm, M, hD, hV, heb, H⟩ := id hst
   obtain ⟨rd, A, l, c, r0, mb, mr, hDe, hbuf, hrd, hr0, hvX, hdr, hsz, hpX⟩ := id hD
   rw [hDe] at H
   replace H := dc.open_.1 H
   clear hst hD
   intro a S
   refine d_start (id := 20) [11] 16 (bA 16 0) H rfl rfl rfl (fun w H => ?_)
   revert a;refine qM [0,1,2,5,6] rfl (qA 3 fa58_3 rfl rfl rfl rfl (qE 4 H rfl rfl rfl m0 rfl ag3 rfl (qA 7 fa58_2 rfl rfl rfl rfl (qE 8 H rfl rfl rfl m0 rfl ag3 rfl (qP 9 rfl (p_sub (r := ((((tkQ 3 7 X p) + 1) : Nat) : Int)) rfl rfl ((IntWalk.i64_in _ (by omega)).trans (by omega))) rfl ?_)))));intro a S
   refine d_call (i := 10) (bA 16 2047) S rfl rfl rfl Tryz.func49 rfl rfl (dec.gt.errNew_ wb _ _ _ ⟨#[101, 120, 112, 101, 99, 116, 101, 100, 32, 102, 105, 101, 108, 100, 32, 118, 97, 108, 117, 101, 44, 32, 102, 111, 117, 110, 100, 32, 101, 110, 100, 32, 111, 102, 32, 105, 110, 112, 117, 116]⟩ H) (wanted_none rfl) rfl rfl (by kernel_rfl) rfl ?_
   rintro e w ⟨gn28, rfl, hH⟩
   have hgn28 := hH.lo _ m0
   refine ⟨_, rfl, hH.tail, ?_⟩; clear H; have H := hH; clear hH;clear S a
   obtain ⟨D', L', hst', hr', mgn28⟩ : ∃ D'' L'', ST TY 5 wb _ g X (((tkQ 3 7 X p) + 1)) ((min (((tkQ 3 7 X p) + 1) + 1) X.length)) 2 false line eb' ((K + 8000)) D'' E' L'' ∧ Rel D' E' L' eb' D'' E' L'' eb' ∧ (gn28, Obj.cells #[.string ⟨#[101, 120, 112, 101, 99, 116, 101, 100, 32, 102, 105, 101, 108, 100, 32, 118, 97, 108, 117, 101, 44, 32, 102, 111, 117, 110, 100, 32, 101, 110, 100, 32, 111, 102, 32, 105, 110, 112, 117, 116]⟩] 120 (0, 0)) ∈ L'' := ⟨_, _ :: L', ⟨v, cm, M, ⟨rd, A, l, c, r0, mb, mr, rfl, hbuf, hrd, hr0, hvX, hdr, hsz, hpX⟩, hV, heb, HH.errD H⟩, by rw [hDe]; exact ((Rel.refl _ _ _ _).head rfl).trans (Rel.one _), m0⟩
   clear H hbuf hrd hr0 hvX hdr hsz hV heb hpX hDe; have hcon := hst'; have hst := hst'
   replace hr := hr.trans hr'
   replace hA8 := hA8.rel hr'
   replace hgs6 := hr'.mem hgs6
   replace hge7 := hr'.mem hge7
   clear hst hr' hcon; have hst := hst'; clear hst'
   have hpX := hst.pX
   have hcon := dec.hb.synS _ _ _ _ _ _ _ _ _ _ _ _ _ _ hst (hB.up (by omega) (by omega)) ((tkQ 3 7 X p) + 1) gn28 (by omega) (by omega) hgn28 ⟨_, _, mgn28⟩
   intro a S
   refine d_call_last (i := 11) (bA 16 4095) S rfl rfl rfl Tryz.func48 rfl rfl hcon (wanted_none rfl) rfl rfl (by kernel_rfl) rfl ?_
   rintro e w ⟨err, eb', D', E', L', rfl, hst', hr', hflt⟩
   refine ⟨_, rfl, ?_⟩;clear S a
   replace hr := hr.trans hr'
   replace hA8 := hA8.rel hr'
   replace hgs6 := hr'.mem hgs6
   replace hge7 := hr'.mem hge7
   replace mgn28 := hr'.mem mgn28
   clear hst hr' hcon; have hst := hst'; clear hst'
   refine qM [12,13,14,15] rfl (qD (pT (pZ (pU ?_))))
   have hR : fieldP 1 5 (fun k => k + 1) X p line = ⟨none, some (flt X ((tkQ 3 7 X p) + 1) ((tkQ 3 7 X p) + 1) line), ((tkQ 3 7 X p) + 1), 4, line⟩ := (if_neg (tru_ne hvA8)).trans ((if_neg hn2).trans ((if_neg hn3).trans ((if_pos (by omega)))))
   intro a S
   rw [hR]
   exact r_ret4 S rfl rfl rfl rfl rfl ⟨_, _, _, _, eb', D', E', L', rfl, (hst.le 0 (Nat.zero_le _)).leK _ (by omega), hr, ⟨.inr ⟨_, rfl, hflt⟩, fun h => by cases h⟩⟩
  have c27 := not_eq_false_ bc27
  have c27 := of_decide_eq_true c27
  have hn4 : ¬ X.length ≤ ((tkQ 3 7 X p) + 1) := by omega
  refine pK (pT (pS (pG (pM 1 rfl (pL (pT (pS (pG (pM 1 rfl (pL (pT ?_)))))))))));intro a S
  refine c_cut (fun a w => ∃ (A_ : Option Addr) (c_ : Nat) (raw : List Int) (kd : Int) (q ln K' : Nat) (eb' : Value) (D' E' L' : dc.Bk), SL a 244 [] [(0, .pointer (some ⟨g, 0, none⟩)), (8, .slice A8 (tkT 3 7 X p).length cA8), (11, .slice A_ raw.length c_), (12, .int .u8 kd)] ∧ ST TY 5 wb w g X q 0 2 false ln eb' K' D' E' L' ∧ Rel D E L eb D' E' L' eb' ∧ Held D' E' L' eb' A8 (tkT 3 7 X p) ∧ Held D' E' L' eb' A_ raw ∧ raw.length ≤ c_ ∧ K' ≤ K + 16000 ∧ ln ≤ line + 4000 ∧ fieldP 1 5 (fun k => k + 1) X p line = behindP X (tkT 3 7 X p) kd raw q ln) ?_ ?_
  ·
   clear S a hst hr hA8; rintro a w ⟨A_, c_, raw, kd, q, ln, K', eb', D', E', L', S, hst, hr, hA8, hA_, hcA_, hK', hln', hF⟩
   have hqX := hst.pX
   have hXl := hB.len
   revert a;refine pS (pS (pG (pM 1 rfl ?_)))
   have hcon := dec.hb.ensS _ _ _ _ _ _ _ _ _ _ _ _ _ _ hst hW
   refine pC Tryz.func22 hcon ?_
   rintro e w ⟨eb', D', E', L', rfl, hst', hr'⟩
   refine ⟨_, rfl, ?_⟩
   replace hr := hr.trans hr'
   replace hA8 := hA8.rel hr'
   replace hA_ := hA_.rel hr'
   clear hst hr' hcon; have hst := hst'; clear hst'
   refine pP (p_not rfl) rfl (pL (pT (zc rfl (fun bc31 => ?_) (fun bc31 => ?_))))
   ·
    have c31 := not_eq_true_ bc31
    have c31 := of_decide_eq_false c31
    refine pS (pG ?_)
    obtain ⟨v, cm, M, hD, hV, heb, H⟩ := id hst
    obtain ⟨rd, A, l, c, r0, mb, mr, hDe, hbuf, hrd, hr0, hvX, hdr, hsz, hpX⟩ := id hD
    rw [hDe] at H
    replace H := dc.open_.1 H
    clear hst hD
    refine pM 2 rfl (pA fa58_5 rfl rfl rfl (pE H rfl rfl rfl .here (by first | decide | simp [Value.cells]) sz54 ?_));clear H;intro w H
    refine pL ?_
    obtain ⟨D', hst', hr'⟩ : ∃ D'', ST TY 5 wb _ g X q ((min (q + 1) X.length)) 5 false ln eb' K' D'' E' L' ∧ Rel D' E' L' eb' D'' E' L' eb' := ⟨_, ⟨v, cm, M, ⟨rd, A, l, c, r0, mb, mr, rfl, hbuf, hrd, hr0, hvX, hdr, hsz, hpX⟩, hV, heb, dc.open_.2 H⟩, by rw [hDe]; exact (Rel.refl _ _ _ _).head rfl⟩
    clear H hbuf hrd hr0 hvX hdr hsz hV heb hpX hDe; have hcon := hst'; have hst := hst'
    replace hr := hr.trans hr'
    replace hA8 := hA8.rel hr'
    replace hA_ := hA_.rel hr'
    clear hst hr' hcon; have hst := hst'; clear hst'
    refine pT (pS (pG (pM 7 rfl (pL (pT (pZ (pU ?_)))))))
    have hR : fieldP 1 5 (fun k => k + 1) X p line = ⟨some ((tkT 3 7 X p), kd, raw), none, q, 5, ln⟩ := hF.trans ((if_pos (by omega)))
    intro a S
    rw [hR]
    exact r_ret4 S rfl rfl rfl rfl rfl ⟨_, _, _, _, eb', D', E', L', rfl, (hst.le 0 (Nat.zero_le _)).leK _ (by omega), hr, ⟨.inl ⟨rfl, rfl⟩, fun _ => ⟨_, rfl, sl_ne hA8 hcA8, hn2, rfl, sl_ne hA_ hcA_⟩⟩⟩
   have c31 := not_eq_false_ bc31
   have c31 := of_decide_eq_true c31
   refine pK (pT (pS (pG (pM 1 rfl ?_))))
   have hpX := hst.pX
   have hcon := dec.hb.atS _ _ _ _ _ _ _ _ _ _ _ _ _ _ hst (by omega)
   refine pC Tryz.func39 hcon ?_
   rintro e w ⟨eb', D', E', L', rfl, hst', hr'⟩
   refine ⟨_, rfl, ?_⟩
   replace hr := hr.trans hr'
   replace hA8 := hA8.rel hr'
   replace hA_ := hA_.rel hr'
   clear hst hr' hcon; have hst := hst'; clear hst'
   refine pM 1 rfl (pL (pT (pS (pS (pG (pM 1 rfl (pP (p_eql rfl rfl) rfl (pL (pT (zc rfl (fun bc33 => ?_) (fun bc33 => ?_)))))))))))
   ·
    have c33 := eq_of_beq bc33
    refine pS (pG (pM 1 rfl ?_))
    have hpX := hst.pX
    have hcon := dec.hb.advS _ _ _ _ _ _ _ _ _ _ _ _ _ _ hst (by omega)
    refine pC Tryz.func42 hcon ?_
    rintro e w ⟨eb', D', E', L', rfl, hst', hr'⟩
    refine ⟨_, rfl, ?_⟩
    replace hr := hr.trans hr'
    replace hA8 := hA8.rel hr'
    replace hA_ := hA_.rel hr'
    clear hst hr' hcon; have hst := hst'; clear hst'
    refine pL (pT (pS (pG (pM 7 rfl (pL (pT (pZ (pU ?_))))))))
    have hR : fieldP 1 5 (fun k => k + 1) X p line = ⟨some ((tkT 3 7 X p), kd, raw), none, q + 1, 2, ln⟩ := hF.trans ((if_neg (by omega)).trans ((if_pos c33)))
    intro a S
    rw [hR]
    exact r_ret4 S rfl rfl rfl rfl rfl ⟨_, _, _, _, eb', D', E', L', rfl, (hst.le 0 (Nat.zero_le _)).leK _ (by omega), hr, ⟨.inl ⟨rfl, rfl⟩, fun _ => ⟨_, rfl, sl_ne hA8 hcA8, hn2, rfl, sl_ne hA_ hcA_⟩⟩⟩
   have c33 := ne_of_beq_false bc33
   refine pK (pT (pS (pS (pG ?_))))
   have hcon := dec.hb.s1 _ _ _ _ _ _ _ _ _ _ _ _ _ _ hst
   refine pC Tryz.func62 hcon ?_
   rintro e w ⟨gs34, eb', D', E', L', rfl, hst', hr', hgs34⟩
   refine ⟨_, rfl, ?_⟩
   replace hr := hr.trans hr'
   replace hA8 := hA8.rel hr'
   replace hA_ := hA_.rel hr'
   clear hst hr' hcon; have hst := hst'; clear hst'
   refine pM 1 rfl ?_
   have hcon := dec.hb.getS _ _ _ _ _ _ _ _ _ _ _ _ _ _ hst gs34 1 (X.getD q 0) (at_by hB.by_ q) hgs34
   refine pC Tryz.func52 hcon ?_
   rintro e w ⟨eb', D', E', L', rfl, hst', hr'⟩
   refine ⟨_, rfl, ?_⟩
   replace hr := hr.trans hr'
   replace hA8 := hA8.rel hr'
   replace hA_ := hA_.rel hr'
   replace hgs34 := hr'.mem hgs34
   clear hst hr' hcon; have hst := hst'; clear hst'
   refine pP (p_not rfl) rfl (pL (pT (zc rfl (fun bc37 => ?_) (fun bc37 => ?_))))
   ·
    have c37 := not_eq_true_ bc37
    refine pS ?_
    obtain ⟨v, cm, M, hD, hV, heb, H⟩ := id hst
    obtain ⟨rd, A, l, c, r0, mb, mr, hDe, hbuf, hrd, hr0, hvX, hdr, hsz, hpX⟩ := id hD
    rw [hDe] at H
    replace H := dc.open_.1 H
    clear hst hD
    intro a S
    refine d_start (id := 72) [11] 16 (bA 16 0) H rfl rfl rfl (fun w H => ?_)
    revert a;refine qM [0,1,2,5,6] rfl (qA 3 fa58_3 rfl rfl rfl rfl (qE 4 H rfl rfl rfl m0 rfl ag3 rfl (qA 7 fa58_2 rfl rfl rfl rfl (qE 8 H rfl rfl rfl m0 rfl ag3 rfl (qP 9 rfl (p_sub (r := ((q : Nat) : Int)) rfl rfl ((IntWalk.i64_in _ (by omega)).trans (by omega))) rfl ?_)))));intro a S
    refine d_call (i := 10) (bA 16 2047) S rfl rfl rfl Tryz.func49 rfl rfl (dec.gt.errNew_ wb _ _ _ ⟨#[117, 110, 101, 120, 112, 101, 99, 116, 101, 100, 32, 99, 104, 97, 114, 97, 99, 116, 101, 114, 32, 46, 46, 32, 97, 102, 116, 101, 114, 32, 102, 105, 101, 108, 100]⟩ H) (wanted_none rfl) rfl rfl (by kernel_rfl) rfl ?_
    rintro e w ⟨gn38, rfl, hH⟩
    have hgn38 := hH.lo _ m0
    refine ⟨_, rfl, hH.tail, ?_⟩; clear H; have H := hH; clear hH;clear S a
    obtain ⟨D', L', hst', hr', mgn38⟩ : ∃ D'' L'', ST TY 5 wb _ g X q ((min (q + 1) X.length)) 2 false ln eb' K' D'' E' L'' ∧ Rel D' E' L' eb' D'' E' L'' eb' ∧ (gn38, Obj.cells #[.string ⟨#[117, 110, 101, 120, 112, 101, 99, 116, 101, 100, 32, 99, 104, 97, 114, 97, 99, 116, 101, 114, 32, 46, 46, 32, 97, 102, 116, 101, 114, 32, 102, 105, 101, 108, 100]⟩] 120 (0, 0)) ∈ L'' := ⟨_, _ :: L', ⟨v, cm, M, ⟨rd, A, l, c, r0, mb, mr, rfl, hbuf, hrd, hr0, hvX, hdr, hsz, hpX⟩, hV, heb, HH.errD H⟩, by rw [hDe]; exact ((Rel.refl _ _ _ _).head rfl).trans (Rel.one _), m0⟩
    clear H hbuf hrd hr0 hvX hdr hsz hV heb hpX hDe; have hcon := hst'; have hst := hst'
    replace hr := hr.trans hr'
    replace hA8 := hA8.rel hr'
    replace hA_ := hA_.rel hr'
    replace hgs34 := hr'.mem hgs34
    clear hst hr' hcon; have hst := hst'; clear hst'
    have hpX := hst.pX
    have hcon := dec.hb.synS _ _ _ _ _ _ _ _ _ _ _ _ _ _ hst (hB.up (by omega) (by omega)) q gn38 (by omega) (by omega) hgn38 ⟨_, _, mgn38⟩
    intro a S
    refine d_call_last (i := 11) (bA 16 4095) S rfl rfl rfl Tryz.func48 rfl rfl hcon (wanted_none rfl) rfl rfl (by kernel_rfl) rfl ?_
    rintro e w ⟨err, eb', D', E', L', rfl, hst', hr', hflt⟩
    refine ⟨_, rfl, ?_⟩;clear S a
    replace hr := hr.trans hr'
    replace hA8 := hA8.rel hr'
    replace hA_ := hA_.rel hr'
    replace hgs34 := hr'.mem hgs34
    replace mgn38 := hr'.mem mgn38
    clear hst hr' hcon; have hst := hst'; clear hst'
    refine qM [12,13,14,15] rfl (qD (pT (pZ (pU ?_))))
    have hR : fieldP 1 5 (fun k => k + 1) X p line = ⟨none, some (flt X q q ln), q, 4, ln⟩ := hF.trans ((if_neg (by omega)).trans ((if_neg c33).trans ((if_pos c37))))
    intro a S
    rw [hR]
    exact r_ret4 S rfl rfl rfl rfl rfl ⟨_, _, _, _, eb', D', E', L', rfl, (hst.le 0 (Nat.zero_le _)).leK _ (by omega), hr, ⟨.inr ⟨_, rfl, hflt⟩, fun h => by cases h⟩⟩
   have c37 := not_eq_false_ bc37
   have hlq := run_le (k := 0) hqX
   have hgq := run_ge 0 X q
   refine pK (pT (pS (pG (pM 1 rfl ?_))))
   have hcon := dec.hb.s0 _ _ _ _ _ _ _ _ _ _ _ _ _ _ hst
   refine pC Tryz.func38 hcon ?_
   rintro e w ⟨gs39, eb', D', E', L', rfl, hst', hr', hgs39⟩
   refine ⟨_, rfl, ?_⟩
   replace hr := hr.trans hr'
   replace hA8 := hA8.rel hr'
   replace hA_ := hA_.rel hr'
   replace hgs34 := hr'.mem hgs34
   clear hst hr' hcon; have hst := hst'; clear hst'
   have hcon := dec.hb.takS _ _ _ _ _ _ _ _ _ _ _ _ _ _ hst hW (hB.up (by omega) (by omega)) gs39 0 hgs39
   refine pC Tryz.func37 hcon ?_
   rintro e w ⟨A40, cA40, eb', D', E', L', rfl, hst', hr', hA40, hcA40⟩
   refine ⟨_, rfl, ?_⟩
   replace hr := hr.trans hr'
   replace hA8 := hA8.rel hr'
   replace hA_ := hA_.rel hr'
   replace hgs34 := hr'.mem hgs34
   replace hgs39 := hr'.mem hgs39
   clear hst hr' hcon; have hst := hst'; clear hst'
   have hgA40 := run_ge 0 X q
   refine pL (pT (pS (pS (pG (pM 1 rfl ?_)))))
   have hcon := dec.hb.eolS _ _ _ _ _ _ _ _ _ _ _ _ _ _ hst hW (hB.up (by omega) (by omega))
   refine pC Tryz.func41 hcon ?_
   rintro e w ⟨eb', D', E', L', rfl, hst', hr'⟩
   refine ⟨_, rfl, ?_⟩
   replace hr := hr.trans hr'
   replace hA8 := hA8.rel hr'
   replace hA_ := hA_.rel hr'
   replace hA40 := hA40.rel hr'
   replace hgs34 := hr'.mem hgs34
   replace hgs39 := hr'.mem hgs39
   clear hst hr' hcon; have hst := hst'; clear hst'
   refine pL (pT (zc rfl (fun bc42 => ?_) (fun bc42 => ?_)))
   ·
    have c42 := bc42
    refine pS (pG ?_)
    obtain ⟨v, cm, M, hD, hV, heb, H⟩ := id hst
    obtain ⟨rd, A, l, c, r0, mb, mr, hDe, hbuf, hrd, hr0, hvX, hdr, hsz, hpX⟩ := id hD
    rw [hDe] at H
    replace H := dc.open_.1 H
    clear hst hD
    refine pM 2 rfl (pA fa58_5 rfl rfl rfl (pE H rfl rfl rfl .here (by first | decide | simp [Value.cells]) sz54 ?_));clear H;intro w H
    refine pL ?_
    obtain ⟨D', hst', hr'⟩ : ∃ D'', ST TY 5 wb _ g X (((run 0 X q) + (dc.eol X (run 0 X q)).2.1)) 0 5 false (((ln + (dc.eol X (run 0 X q)).2.2))) eb' K' D'' E' L' ∧ Rel D' E' L' eb' D'' E' L' eb' := ⟨_, ⟨v, cm, M, ⟨rd, A, l, c, r0, mb, mr, rfl, hbuf, hrd, hr0, hvX, hdr, hsz, hpX⟩, hV, heb, dc.open_.2 H⟩, by rw [hDe]; exact (Rel.refl _ _ _ _).head rfl⟩
    clear H hbuf hrd hr0 hvX hdr hsz hV heb hpX hDe; have hcon := hst'; have hst := hst'
    replace hr := hr.trans hr'
    replace hA8 := hA8.rel hr'
    replace hA_ := hA_.rel hr'
    replace hA40 := hA40.rel hr'
    replace hgs34 := hr'.mem hgs34
    replace hgs39 := hr'.mem hgs39
    clear hst hr' hcon; have hst := hst'; clear hst'
    refine pT (pS (pG (pM 7 rfl (pL (pT (pZ (pU ?_)))))))
    have hR : fieldP 1 5 (fun k => k + 1) X p line = ⟨some ((tkT 3 7 X p), kd, raw), none, ((run 0 X q) + (dc.eol X (run 0 X q)).2.1), 5, ((ln + (dc.eol X (run 0 X q)).2.2))⟩ := hF.trans ((if_neg (by omega)).trans ((if_neg c33).trans ((if_neg (by rw [c37]; decide)).trans ((if_pos c42)))))
    intro a S
    rw [hR]
    exact r_ret4 S rfl rfl rfl rfl rfl ⟨_, _, _, _, eb', D', E', L', rfl, (hst.le 0 (Nat.zero_le _)).leK _ (by omega), hr, ⟨.inl ⟨rfl, rfl⟩, fun _ => ⟨_, rfl, sl_ne hA8 hcA8, hn2, rfl, sl_ne hA_ hcA_⟩⟩⟩
   have c42 := bc42
   obtain ⟨hz1, hz2⟩ := eol_no c42
   rw [hz2, hz1] at hst
   simp only [Nat.add_zero] at hst
   refine pK (pT (pS (pG ?_)))
   obtain ⟨v, cm, M, hD, hV, heb, H⟩ := id hst
   obtain ⟨rd, A, l, c, r0, mb, mr, hDe, hbuf, hrd, hr0, hvX, hdr, hsz, hpX⟩ := id hD
   rw [hDe] at H
   replace H := dc.open_.1 H
   clear hst hD
   refine pM 2 rfl (pA fa58_5 rfl rfl rfl (pE H rfl rfl rfl .here (by first | decide | simp [Value.cells]) sz54 ?_));clear H;intro w H
   refine pL ?_
   obtain ⟨D', hst', hr'⟩ : ∃ D'', ST TY 5 wb _ g X ((run 0 X q)) 0 3 false ln eb' K' D'' E' L' ∧ Rel D' E' L' eb' D'' E' L' eb' := ⟨_, ⟨v, cm, M, ⟨rd, A, l, c, r0, mb, mr, rfl, hbuf, hrd, hr0, hvX, hdr, hsz, hpX⟩, hV, heb, dc.open_.2 H⟩, by rw [hDe]; exact (Rel.refl _ _ _ _).head rfl⟩
   clear H hbuf hrd hr0 hvX hdr hsz hV heb hpX hDe; have hcon := hst'; have hst := hst'
   replace hr := hr.trans hr'
   replace hA8 := hA8.rel hr'
   replace hA_ := hA_.rel hr'
   replace hA40 := hA40.rel hr'
   replace hgs34 := hr'.mem hgs34
   replace hgs39 := hr'.mem hgs39
   clear hst hr' hcon; have hst := hst'; clear hst'
   refine pT (pS (pG (pM 7 rfl (pL (pT (pZ ?_))))))
   have hR : fieldP 1 5 (fun k => k + 1) X p line = ⟨some ((tkT 3 7 X p), kd, raw), none, run 0 X q, 3, ln⟩ := hF.trans ((if_neg (by omega)).trans ((if_neg c33).trans ((if_neg (by rw [c37]; decide)).trans ((if_neg (by rw [c42]; decide))))))
   intro a S
   rw [hR]
   exact r_ret4 S rfl rfl rfl rfl rfl ⟨_, _, _, _, eb', D', E', L', rfl, (hst.le 0 (Nat.zero_le _)).leK _ (by omega), hr, ⟨.inl ⟨rfl, rfl⟩, fun _ => ⟨_, rfl, sl_ne hA8 hcA8, hn2, rfl, sl_ne hA_ hcA_⟩⟩⟩
  revert a;refine pS (pG (pM 1 rfl ?_))
  have hpX := hst.pX
  have hcon := dec.hb.atS _ _ _ _ _ _ _ _ _ _ _ _ _ _ hst (by omega)
  refine pC Tryz.func39 hcon ?_
  rintro e w ⟨eb', D', E', L', rfl, hst', hr'⟩
  refine ⟨_, rfl, ?_⟩
  replace hr := hr.trans hr'
  replace hA8 := hA8.rel hr'
  replace hgs6 := hr'.mem hgs6
  replace hge7 := hr'.mem hge7
  clear hst hr' hcon; have hst := hst'; clear hst'
  refine pL (pT (pB (pS (pG (pP (p_eql rfl rfl) rfl (pM 1 rfl (pL (pT (zc rfl (fun bc44 => ?_) (fun bc44 => ?_))))))))))
  ·
   have c44 := eq_of_beq bc44
   refine pS (pG (pM 1 rfl ?_))
   have hpX := hst.pX
   have hcon := dec.hb.advS _ _ _ _ _ _ _ _ _ _ _ _ _ _ hst (by omega)
   refine pC Tryz.func42 hcon ?_
   rintro e w ⟨eb', D', E', L', rfl, hst', hr'⟩
   refine ⟨_, rfl, ?_⟩
   replace hr := hr.trans hr'
   replace hA8 := hA8.rel hr'
   replace hgs6 := hr'.mem hgs6
   replace hge7 := hr'.mem hge7
   clear hst hr' hcon; have hst := hst'; clear hst'
   replace hst : ST TY 5 wb w g X (((tkQ 3 7 X p) + 2)) ((min (((tkQ 3 7 X p) + 1) + 1) X.length)) 2 false line eb' ((K + 8000)) D' E' L' := hst
   refine pL (pT (pS (pG (pM 1 rfl (pL (pT (pS (pG (pM 1 rfl ?_)))))))))
   have hcon := dec.hb.s8 _ _ _ _ _ _ _ _ _ _ _ _ _ _ hst
   refine pC Tryz.func59 hcon ?_
   rintro e w ⟨gs45, eb', D', E', L', rfl, hst', hr', hgs45⟩
   refine ⟨_, rfl, ?_⟩
   replace hr := hr.trans hr'
   replace hA8 := hA8.rel hr'
   replace hgs6 := hr'.mem hgs6
   replace hge7 := hr'.mem hge7
   clear hst hr' hcon; have hst := hst'; clear hst'
   have hcon := dec.hb.e4 _ _ _ _ _ _ _ _ _ _ _ _ _ _ hst
   refine pC Tryz.func60 hcon ?_
   rintro e w ⟨ge46, eb', D', E', L', rfl, hst', hr', hge46⟩
   refine ⟨_, rfl, ?_⟩
   replace hr := hr.trans hr'
   replace hA8 := hA8.rel hr'
   replace hgs6 := hr'.mem hgs6
   replace hge7 := hr'.mem hge7
   replace hgs45 := hr'.mem hgs45
   clear hst hr' hcon; have hst := hst'; clear hst'
   refine pP (p_nilCheck rfl) rfl (pA fa96_1 rfl rfl rfl ?_)
   have hpA47 := hst.pX
   have hcon := dec.hb.escS_ _ _ _ _ _ _ _ _ _ _ _ _ _ _ hst hW (hB.up (by omega) (by omega)) rfl gs45 8 hgs45 ge46 4 (by decide) hge46
   refine pC Tryz.func45 hcon ?_
   rintro e w ⟨A47, cA47, err, sec', eb', D', E', L', rfl, hst', hr', hA47, hcA47, hf⟩
   refine ⟨_, rfl, ?_⟩
   replace hr := hr.trans hr'
   replace hA8 := hA8.rel hr'
   replace hgs6 := hr'.mem hgs6
   replace hge7 := hr'.mem hge7
   replace hgs45 := hr'.mem hgs45
   replace hge46 := hr'.mem hge46
   clear hst hr' hcon; have hst := hst'; clear hst'
   have hqA47 := tkQ_le (k := 4) (s := 8) hpA47
   rcases hf with ⟨hvA47, rfl, rfl⟩ | ⟨hvA47, rfl, hflt⟩
   ·
    have hl8 := lnT_le (sIn 8) X ((tkQ 3 7 X p) + 2) (tkQ 4 8 X ((tkQ 3 7 X p) + 2)) line
    refine pM 7 rfl (pL (pT (pS (pS (pG (pM 1 rfl (pP (p_nilnilN mi51 rfl) rfl (pL (pT (zf (pK (pT (pS (pG (pM 1 rfl (pL (pT (pS (pS (pG (pM 1 rfl ?_)))))))))))))))))))))
    have hcon := dec.hb.ensS _ _ _ _ _ _ _ _ _ _ _ _ _ _ hst hW
    refine pC Tryz.func22 hcon ?_
    rintro e w ⟨eb', D', E', L', rfl, hst', hr'⟩
    refine ⟨_, rfl, ?_⟩
    replace hr := hr.trans hr'
    replace hA8 := hA8.rel hr'
    replace hA47 := hA47.rel hr'
    replace hgs6 := hr'.mem hgs6
    replace hge7 := hr'.mem hge7
    replace hgs45 := hr'.mem hgs45
    replace hge46 := hr'.mem hge46
    clear hst hr' hcon; have hst := hst'; clear hst'
    refine pP (p_not rfl) rfl (pL (pT (zc rfl (fun bc52 => ?_) (fun bc52 => ?_))))
    ·
     have c52 := not_eq_true_ bc52
     have c52 := of_decide_eq_false c52
     refine pS (pG (pM 2 rfl (pP (p_sub (r := ((((tkQ 3 7 X p) + 1) : Nat) : Int)) rfl rfl ((IntWalk.i64_in _ (by omega)).trans (by omega))) rfl ?_)))
     have hcon := dec.hb.errS _ _ _ _ _ _ _ _ _ _ _ _ _ _ hst ⟨#[101, 120, 112, 101, 99, 116, 101, 100, 32, 99, 108, 111, 115, 105, 110, 103, 32, 113, 117, 111, 116, 101, 32, 102, 111, 114, 32, 115, 116, 114, 105, 110, 103, 32, 102, 105, 101, 108, 100, 32, 118, 97, 108, 117, 101, 44, 32, 102, 111, 117, 110, 100, 32, 101, 110, 100, 32, 111, 102, 32, 105, 110, 112, 117, 116]⟩
     refine pC Tryz.func49 hcon ?_
     rintro e w ⟨gn53, eb', D', E', L', rfl, hst', hr', hgn53, mgn53⟩
     refine ⟨_, rfl, ?_⟩
     replace hr := hr.trans hr'
     replace hA8 := hA8.rel hr'
     replace hA47 := hA47.rel hr'
     replace hgs6 := hr'.mem hgs6
     replace hge7 := hr'.mem hge7
     replace hgs45 := hr'.mem hgs45
     replace hge46 := hr'.mem hge46
     clear hst hr' hcon; have hst := hst'; clear hst'
     have hpX := hst.pX
     have hcon := dec.hb.synS _ _ _ _ _ _ _ _ _ _ _ _ _ _ hst (hB.up (by omega) (by omega)) ((tkQ 3 7 X p) + 1) gn53 (by omega) (by omega) hgn53 ⟨_, _, mgn53⟩
     refine pC Tryz.func48 hcon ?_
     rintro e w ⟨err, eb', D', E', L', rfl, hst', hr', hflt⟩
     refine ⟨_, rfl, ?_⟩
     replace hr := hr.trans hr'
     replace hA8 := hA8.rel hr'
     replace hA47 := hA47.rel hr'
     replace hgs6 := hr'.mem hgs6
     replace hge7 := hr'.mem hge7
     replace hgs45 := hr'.mem hgs45
     replace hge46 := hr'.mem hge46
     replace mgn53 := hr'.mem mgn53
     clear hst hr' hcon; have hst := hst'; clear hst'
     refine pM 4 rfl (pL (pT (pZ (pU (pJ (pU ?_))))))
     have hR : fieldP 1 5 (fun k => k + 1) X p line = ⟨none, some (flt X ((tkQ 3 7 X p) + 1) (tkQ 4 8 X ((tkQ 3 7 X p) + 2)) (lnT (sIn 8) X ((tkQ 3 7 X p) + 2) (tkQ 4 8 X ((tkQ 3 7 X p) + 2)) line)), (tkQ 4 8 X ((tkQ 3 7 X p) + 2)), 4, (lnT (sIn 8) X ((tkQ 3 7 X p) + 2) (tkQ 4 8 X ((tkQ 3 7 X p) + 2)) line)⟩ := (if_neg (tru_ne hvA8)).trans ((if_neg hn2).trans ((if_neg hn3).trans ((if_neg hn4).trans ((if_pos c44).trans ((if_neg (tru_ne hvA47)).trans ((if_pos (by omega))))))))
     intro a S
     rw [hR]
     exact r_ret4 S rfl rfl rfl rfl rfl ⟨_, _, _, _, eb', D', E', L', rfl, (hst.le 0 (Nat.zero_le _)).leK _ (by omega), hr, ⟨.inr ⟨_, rfl, hflt⟩, fun h => by cases h⟩⟩
    have c52 := not_eq_false_ bc52
    have c52 := of_decide_eq_true c52
    have ha34 := str_end hB.by_ (show (tkQ 4 8 X ((tkQ 3 7 X p) + 2)) < X.length by omega)
    refine pK (pT (pS (pS (pG (pM 1 rfl ?_)))))
    have hpX := hst.pX
    have hcon := dec.hb.atS _ _ _ _ _ _ _ _ _ _ _ _ _ _ hst (by omega)
    refine pC Tryz.func39 hcon ?_
    rintro e w ⟨eb', D', E', L', rfl, hst', hr'⟩
    refine ⟨_, rfl, ?_⟩
    replace hr := hr.trans hr'
    replace hA8 := hA8.rel hr'
    replace hA47 := hA47.rel hr'
    replace hgs6 := hr'.mem hgs6
    replace hge7 := hr'.mem hge7
    replace hgs45 := hr'.mem hgs45
    replace hge46 := hr'.mem hge46
    clear hst hr' hcon; have hst := hst'; clear hst'
    refine pP (p_neq rfl rfl) rfl (pL (pT ?_));intro a S
    refine c_cond S rfl (fun c55 => by have c55 := bne_iff_ne.1 c55; exfalso; exact absurd ha34 (by assumption)) (fun c55 => ?_)
    have c55 := bne_eq_false_iff_eq.1 c55
    revert a;refine pK (pT (pG (pM 1 rfl ?_)))
    have hpX := hst.pX
    have hcon := dec.hb.advS _ _ _ _ _ _ _ _ _ _ _ _ _ _ hst (by omega)
    refine pC Tryz.func42 hcon ?_
    rintro e w ⟨eb', D', E', L', rfl, hst', hr'⟩
    refine ⟨_, rfl, ?_⟩
    replace hr := hr.trans hr'
    replace hA8 := hA8.rel hr'
    replace hA47 := hA47.rel hr'
    replace hgs6 := hr'.mem hgs6
    replace hge7 := hr'.mem hge7
    replace hgs45 := hr'.mem hgs45
    replace hge46 := hr'.mem hge46
    clear hst hr' hcon; have hst := hst'; clear hst'
    refine pL (pI 0 (pT ?_))
    have hl8 := lnT_le (sIn 8) X ((tkQ 3 7 X p) + 2) (tkQ 4 8 X ((tkQ 3 7 X p) + 2)) line
    have hXl := hB.len
    have hpq := hst.pX
    intro a S
    exact ⟨_, _, (tkT 4 8 X ((tkQ 3 7 X p) + 2)), 1, ((tkQ 4 8 X ((tkQ 3 7 X p) + 2)) + 1), (lnT (sIn 8) X ((tkQ 3 7 X p) + 2) (tkQ 4 8 X ((tkQ 3 7 X p) + 2)) line), ((K + 8000) + 8000), eb', D', E', L', S.only ⟨rfl, rfl, rfl, rfl, trivial⟩, hst.le 0 (Nat.zero_le _), hr, hA8, hA47, hcA47, by omega, by omega, (if_neg (tru_ne hvA8)).trans ((if_neg hn2).trans ((if_neg hn3).trans ((if_neg hn4).trans ((if_pos c44).trans ((if_neg (tru_ne hvA47)).trans ((if_neg (by omega))))))))⟩
   have hl8 := lnT_le (sIn 8) X ((tkQ 3 7 X p) + 2) (tkQ 4 8 X ((tkQ 3 7 X p) + 2)) line
   obtain ⟨gf, gn', rfl, hf1, hf2⟩ := id hflt
   refine pM 7 rfl (pL (pT (pS (pS (pG (pM 1 rfl (pP (p_ifnilN mi51 rfl rfl) rfl (pL (pT (zt (pS (pG (pM 5 rfl (pL (pT (pZ (pU (pJ (pU ?_)))))))))))))))))))
   have hR : fieldP 1 5 (fun k => k + 1) X p line = ⟨none, some (flt X ((tkQ 3 7 X p) + 2) (tkQ 4 8 X ((tkQ 3 7 X p) + 2)) (lnT (sIn 8) X ((tkQ 3 7 X p) + 2) (tkQ 4 8 X ((tkQ 3 7 X p) + 2)) line)), (tkQ 4 8 X ((tkQ 3 7 X p) + 2)), 4, (lnT (sIn 8) X ((tkQ 3 7 X p) + 2) (tkQ 4 8 X ((tkQ 3 7 X p) + 2)) line)⟩ := (if_neg (tru_ne hvA8)).trans ((if_neg hn2).trans ((if_neg hn3).trans ((if_neg hn4).trans ((if_pos c44).trans ((if_pos hvA47))))))
   intro a S
   rw [hR]
   exact r_ret4 S rfl rfl rfl rfl rfl ⟨_, _, _, _, eb', D', E', L', rfl, (hst.le 0 (Nat.zero_le _)).leK _ (by omega), hr, ⟨.inr ⟨_, rfl, hflt⟩, fun h => by cases h⟩⟩
  have c44 := ne_of_beq_false bc44
  intro a S
  refine c_cut (fun a w_ => w = w_ ∧ ∃ b_ : Bool, SL a 244 [] [(0, .pointer (some ⟨g, 0, none⟩)), (8, .slice A8 (tkT 3 7 X p).length cA8), (101, .int .u8 (X.getD ((tkQ 3 7 X p) + 1) 0)), (149, .bool b_)] ∧ (b_ = true ↔ ((X.getD ((tkQ 3 7 X p) + 1) 0) = 116 ∨ (X.getD ((tkQ 3 7 X p) + 1) 0) = 84 ∨ (X.getD ((tkQ 3 7 X p) + 1) 0) = 102 ∨ (X.getD ((tkQ 3 7 X p) + 1) 0) = 70))) ?_ ?_
  ·
   clear S a; rintro a _ ⟨rfl, b_, S, hbP⟩
   revert a;refine zc rfl (fun bc58 => ?_) (fun bc58 => ?_)
   ·
    have c58 := bc58
    have hbl := hbP.1 bc58
    refine pS (pG (pM 1 rfl ?_))
    have hcon := dec.hb.s9 _ _ _ _ _ _ _ _ _ _ _ _ _ _ hst
    refine pC Tryz.func61 hcon ?_
    rintro e w ⟨gs59, eb', D', E', L', rfl, hst', hr', hgs59⟩
    refine ⟨_, rfl, ?_⟩
    replace hr := hr.trans hr'
    replace hA8 := hA8.rel hr'
    replace hgs6 := hr'.mem hgs6
    replace hge7 := hr'.mem hge7
    clear hst hr' hcon; have hst := hst'; clear hst'
    have hcon := dec.hb.takS _ _ _ _ _ _ _ _ _ _ _ _ _ _ hst hW (hB.up (by omega) (by omega)) gs59 9 hgs59
    refine pC Tryz.func37 hcon ?_
    rintro e w ⟨A60, cA60, eb', D', E', L', rfl, hst', hr', hA60, hcA60⟩
    refine ⟨_, rfl, ?_⟩
    replace hr := hr.trans hr'
    replace hA8 := hA8.rel hr'
    replace hgs6 := hr'.mem hgs6
    replace hge7 := hr'.mem hge7
    replace hgs59 := hr'.mem hgs59
    clear hst hr' hcon; have hst := hst'; clear hst'
    have hgA60 := run_ge 9 X ((tkQ 3 7 X p) + 1)
    refine pM 1 rfl (pL (pT (pG (pM 1 rfl (pL (pI 0 (pT ?_)))))))
    have hXl := hB.len
    have hpq := hst.pX
    intro a S
    exact ⟨_, _, ((X.take (run 9 X ((tkQ 3 7 X p) + 1))).drop ((tkQ 3 7 X p) + 1)), 5, (run 9 X ((tkQ 3 7 X p) + 1)), line, (K + 8000), eb', D', E', L', S.only ⟨rfl, rfl, rfl, rfl, trivial⟩, hst.le 0 (Nat.zero_le _), hr, hA8, hA60, hcA60, by omega, by omega, (if_neg (tru_ne hvA8)).trans ((if_neg hn2).trans ((if_neg hn3).trans ((if_neg hn4).trans ((if_neg c44).trans ((if_pos hbl))))))⟩
   have c58 := bc58
   have hnbl : ¬ ((X.getD ((tkQ 3 7 X p) + 1) 0) = 116 ∨ (X.getD ((tkQ 3 7 X p) + 1) 0) = 84 ∨ (X.getD ((tkQ 3 7 X p) + 1) 0) = 102 ∨ (X.getD ((tkQ 3 7 X p) + 1) 0) = 70) := fun h => by have h' := hbP.2 h; rw [bc58] at h'; cases h'
   intro a S
   refine c_cut (fun a w_ => w = w_ ∧ ∃ b_ : Bool, SL a 244 [] [(0, .pointer (some ⟨g, 0, none⟩)), (8, .slice A8 (tkT 3 7 X p).length cA8), (101, .int .u8 (X.getD ((tkQ 3 7 X p) + 1) 0)), (157, .bool b_)] ∧ (b_ = true ↔ ((X.getD ((tkQ 3 7 X p) + 1) 0) = 45 ∨ (X.getD ((tkQ 3 7 X p) + 1) 0) = 46 ∨ (48 ≤ (X.getD ((tkQ 3 7 X p) + 1) 0) ∧ (X.getD ((tkQ 3 7 X p) + 1) 0) ≤ 57)))) ?_ ?_
   ·
    clear S a; rintro a _ ⟨rfl, b_, S, hbP⟩
    revert a;refine zc rfl (fun bc61 => ?_) (fun bc61 => ?_)
    ·
     have c61 := bc61
     have hnu := hbP.1 bc61
     have hrs := run_step (k := 9) (X := X) (p := ((tkQ 3 7 X p) + 1)) (by omega) (num_in hnu)
     have hrg := run_ge 9 X (((tkQ 3 7 X p) + 1) + 1)
     have hrl := run_le (k := 9) (X := X) (p := ((tkQ 3 7 X p) + 1)) (by omega)
     have hRe : ((X.take (run 9 X ((tkQ 3 7 X p) + 1))).drop ((tkQ 3 7 X p) + 1)).length = run 9 X ((tkQ 3 7 X p) + 1) - ((tkQ 3 7 X p) + 1) := by rw [List.length_drop, List.length_take]; omega
     have hRl : 1 ≤ ((X.take (run 9 X ((tkQ 3 7 X p) + 1))).drop ((tkQ 3 7 X p) + 1)).length := by omega
     refine pS (pG (pM 1 rfl ?_))
     have hcon := dec.hb.s9 _ _ _ _ _ _ _ _ _ _ _ _ _ _ hst
     refine pC Tryz.func61 hcon ?_
     rintro e w ⟨gs62, eb', D', E', L', rfl, hst', hr', hgs62⟩
     refine ⟨_, rfl, ?_⟩
     replace hr := hr.trans hr'
     replace hA8 := hA8.rel hr'
     replace hgs6 := hr'.mem hgs6
     replace hge7 := hr'.mem hge7
     clear hst hr' hcon; have hst := hst'; clear hst'
     have hcon := dec.hb.takS _ _ _ _ _ _ _ _ _ _ _ _ _ _ hst hW (hB.up (by omega) (by omega)) gs62 9 hgs62
     refine pC Tryz.func37 hcon ?_
     rintro e w ⟨A63, cA63, eb', D', E', L', rfl, hst', hr', hA63, hcA63⟩
     refine ⟨_, rfl, ?_⟩
     replace hr := hr.trans hr'
     replace hA8 := hA8.rel hr'
     replace hgs6 := hr'.mem hgs6
     replace hge7 := hr'.mem hge7
     replace hgs62 := hr'.mem hgs62
     clear hst hr' hcon; have hst := hst'; clear hst'
     have hgA63 := run_ge 9 X ((tkQ 3 7 X p) + 1)
     refine pM 1 rfl (pL (pT (pS (pG (pM 2 rfl (pP (p_len Tryz.underlying23 rfl) rfl (pP (p_sub (r := ((((X.take (run 9 X ((tkQ 3 7 X p) + 1))).drop ((tkQ 3 7 X p) + 1)).length - 1 : Nat) : Int)) rfl rfl ((IntWalk.i64_in _ (by omega)).trans (by omega))) rfl ?_)))))))
     obtain ⟨gx64, ox64, rfl, hRx64⟩ := (hst.sb hA63 hcA63 (fun h_ => by rw [h_] at hRl; exact absurd hRl (by decide))).get (i := ((((X.take (run 9 X ((tkQ 3 7 X p) + 1))).drop ((tkQ 3 7 X p) + 1)).length - 1))) (by omega)
     refine pP (p_indexAddr rfl rfl (fun w => ia_slice Tryz.underlying23 sz5 (by omega) (by omega))) rfl (pR (HH.start _) (r_byte (l := ((X.take (run 9 X ((tkQ 3 7 X p) + 1))).drop ((tkQ 3 7 X p) + 1))) (i := ((((X.take (run 9 X ((tkQ 3 7 X p) + 1))).drop ((tkQ 3 7 X p) + 1)).length - 1))) (v := ((X.take (run 9 X ((tkQ 3 7 X p) + 1))).drop ((tkQ 3 7 X p) + 1)).getD (((((X.take (run 9 X ((tkQ 3 7 X p) + 1))).drop ((tkQ 3 7 X p) + 1)).length - 1))) 0) rfl (by omega) ag5 hRx64 rfl (get_some 0 (by omega))) rfl (pL (pT (pB (pS (pG (pP (p_eql rfl rfl) rfl (pM 1 rfl (pL (pT (zc rfl (fun bc66 => ?_) (fun bc66 => ?_))))))))))))
     ·
      have c66 := eq_of_beq bc66
      refine pS (pG (pM 2 rfl (pP (p_len Tryz.underlying23 rfl) rfl (pP (p_sub (r := ((((X.take (run 9 X ((tkQ 3 7 X p) + 1))).drop ((tkQ 3 7 X p) + 1)).length - 1 : Nat) : Int)) rfl rfl ((IntWalk.i64_in _ (by omega)).trans (by omega))) rfl (pP (p_slice rfl (fun _ _ => o_none) (o_some rfl) (fun _ _ => o_none) (fun w => sl_sb_hi (l := ((X.take (run 9 X ((tkQ 3 7 X p) + 1))).drop ((tkQ 3 7 X p) + 1))) (h := ((X.take (run 9 X ((tkQ 3 7 X p) + 1))).drop ((tkQ 3 7 X p) + 1)).length - 1) Tryz.underlying23 sz5 rfl (by omega) hcA63)) rfl (pM 1 rfl (pL (pT (pG (pM 1 rfl (pL (pI 1 (pI 0 (pT ?_))))))))))))))
      have hnk : numK ((X.take (run 9 X ((tkQ 3 7 X p) + 1))).drop ((tkQ 3 7 X p) + 1)) = (1, (((X.take (run 9 X ((tkQ 3 7 X p) + 1))).drop ((tkQ 3 7 X p) + 1)).take (((X.take (run 9 X ((tkQ 3 7 X p) + 1))).drop ((tkQ 3 7 X p) + 1)).length - 1))) := if_pos c66
      have hXl := hB.len
      have hpq := hst.pX
      intro a S
      exact ⟨_, _, (((X.take (run 9 X ((tkQ 3 7 X p) + 1))).drop ((tkQ 3 7 X p) + 1)).take (((X.take (run 9 X ((tkQ 3 7 X p) + 1))).drop ((tkQ 3 7 X p) + 1)).length - 1)), 2, (run 9 X ((tkQ 3 7 X p) + 1)), line, (K + 8000), eb', D', E', L', S.only ⟨rfl, rfl, rfl, rfl, trivial⟩, hst.le 0 (Nat.zero_le _), hr, hA8, (Held.take hA63 _), (Nat.le_trans (by rw [List.length_take]; exact Nat.min_le_right _ _) hcA63), by omega, by omega, ((if_neg (tru_ne hvA8)).trans ((if_neg hn2).trans ((if_neg hn3).trans ((if_neg hn4).trans ((if_neg c44).trans ((if_neg hnbl).trans ((if_pos hnu)))))))).trans (by rw [hnk]; rfl)⟩
     have c66 := ne_of_beq_false bc66
     refine pS (pG (pP (p_eql rfl rfl) rfl (pM 1 rfl (pL (pT (zc rfl (fun bc68 => ?_) (fun bc68 => ?_)))))))
     ·
      have c68 := eq_of_beq bc68
      refine pS (pG (pM 2 rfl (pP (p_len Tryz.underlying23 rfl) rfl (pP (p_sub (r := ((((X.take (run 9 X ((tkQ 3 7 X p) + 1))).drop ((tkQ 3 7 X p) + 1)).length - 1 : Nat) : Int)) rfl rfl ((IntWalk.i64_in _ (by omega)).trans (by omega))) rfl (pP (p_slice rfl (fun _ _ => o_none) (o_some rfl) (fun _ _ => o_none) (fun w => sl_sb_hi (l := ((X.take (run 9 X ((tkQ 3 7 X p) + 1))).drop ((tkQ 3 7 X p) + 1))) (h := ((X.take (run 9 X ((tkQ 3 7 X p) + 1))).drop ((tkQ 3 7 X p) + 1)).length - 1) Tryz.underlying23 sz5 rfl (by omega) hcA63)) rfl (pM 1 rfl (pL (pT (pG (pM 1 rfl (pL (pI 1 (pI 0 (pT ?_))))))))))))))
      have hnk : numK ((X.take (run 9 X ((tkQ 3 7 X p) + 1))).drop ((tkQ 3 7 X p) + 1)) = (2, (((X.take (run 9 X ((tkQ 3 7 X p) + 1))).drop ((tkQ 3 7 X p) + 1)).take (((X.take (run 9 X ((tkQ 3 7 X p) + 1))).drop ((tkQ 3 7 X p) + 1)).length - 1))) := (if_neg c66).trans (if_pos c68)
      have hXl := hB.len
      have hpq := hst.pX
      intro a S
      exact ⟨_, _, (((X.take (run 9 X ((tkQ 3 7 X p) + 1))).drop ((tkQ 3 7 X p) + 1)).take (((X.take (run 9 X ((tkQ 3 7 X p) + 1))).drop ((tkQ 3 7 X p) + 1)).length - 1)), 3, (run 9 X ((tkQ 3 7 X p) + 1)), line, (K + 8000), eb', D', E', L', S.only ⟨rfl, rfl, rfl, rfl, trivial⟩, hst.le 0 (Nat.zero_le _), hr, hA8, (Held.take hA63 _), (Nat.le_trans (by rw [List.length_take]; exact Nat.min_le_right _ _) hcA63), by omega, by omega, ((if_neg (tru_ne hvA8)).trans ((if_neg hn2).trans ((if_neg hn3).trans ((if_neg hn4).trans ((if_neg c44).trans ((if_neg hnbl).trans ((if_pos hnu)))))))).trans (by rw [hnk]; rfl)⟩
     have c68 := ne_of_beq_false bc68
     refine pG (pM 1 rfl (pL (pI 1 (pI 0 (pT ?_)))))
     have hnk : numK ((X.take (run 9 X ((tkQ 3 7 X p) + 1))).drop ((tkQ 3 7 X p) + 1)) = (3, ((X.take (run 9 X ((tkQ 3 7 X p) + 1))).drop ((tkQ 3 7 X p) + 1))) := (if_neg c66).trans (if_neg c68)
     have hXl := hB.len
     have hpq := hst.pX
     intro a S
     exact ⟨_, _, ((X.take (run 9 X ((tkQ 3 7 X p) + 1))).drop ((tkQ 3 7 X p) + 1)), 4, (run 9 X ((tkQ 3 7 X p) + 1)), line, (K + 8000), eb', D', E', L', S.only ⟨rfl, rfl, rfl, rfl, trivial⟩, hst.le 0 (Nat.zero_le _), hr, hA8, hA63, hcA63, by omega, by omega, ((if_neg (tru_ne hvA8)).trans ((if_neg hn2).trans ((if_neg hn3).trans ((if_neg hn4).trans ((if_neg c44).trans ((if_neg hnbl).trans ((if_pos hnu)))))))).trans (by rw [hnk]; rfl)⟩
    have c61 := bc61
    have hnnu : ¬ ((X.getD ((tkQ 3 7 X p) + 1) 0) = 45 ∨ (X.getD ((tkQ 3 7 X p) + 1) 0) = 46 ∨ (48 ≤ (X.getD ((tkQ 3 7 X p) + 1) 0) ∧ (X.getD ((tkQ 3 7 X p) + 1) 0) ≤ 57)) := fun h => by have h' := hbP.2 h; rw [bc61] at h'; cases h'
    refine pS ?_
    obtain ⟨v, cm, M, hD, hV, heb, H⟩ := id hst
    obtain ⟨rd, A, l, c, r0, mb, mr, hDe, hbuf, hrd, hr0, hvX, hdr, hsz, hpX⟩ := id hD
    rw [hDe] at H
    replace H := dc.open_.1 H
    clear hst hD
    intro a S
    refine d_start (id := 24) [11] 16 (bA 16 0) H rfl rfl rfl (fun w H => ?_)
    revert a;refine qM [0,1,2,5,6] rfl (qA 3 fa58_3 rfl rfl rfl rfl (qE 4 H rfl rfl rfl m0 rfl ag3 rfl (qA 7 fa58_2 rfl rfl rfl rfl (qE 8 H rfl rfl rfl m0 rfl ag3 rfl (qP 9 rfl (p_sub (r := ((((tkQ 3 7 X p) + 1) : Nat) : Int)) rfl rfl ((IntWalk.i64_in _ (by omega)).trans (by omega))) rfl ?_)))));intro a S
    refine d_call (i := 10) (bA 16 2047) S rfl rfl rfl Tryz.func49 rfl rfl (dec.gt.errNew_ wb _ _ _ ⟨#[102, 105, 101, 108, 100, 32, 118, 97, 108, 117, 101, 32, 104, 97, 115, 32, 117, 110, 114, 101, 99, 111, 103, 110, 105, 122, 101, 100, 32, 116, 121, 112, 101]⟩ H) (wanted_none rfl) rfl rfl (by kernel_rfl) rfl ?_
    rintro e w ⟨gn69, rfl, hH⟩
    have hgn69 := hH.lo _ m0
    refine ⟨_, rfl, hH.tail, ?_⟩; clear H; have H := hH; clear hH;clear S a
    obtain ⟨D', L', hst', hr', mgn69⟩ : ∃ D'' L'', ST TY 5 wb _ g X (((tkQ 3 7 X p) + 1)) ((min (((tkQ 3 7 X p) + 1) + 1) X.length)) 2 false line eb' ((K + 8000)) D'' E' L'' ∧ Rel D' E' L' eb' D'' E' L'' eb' ∧ (gn69, Obj.cells #[.string ⟨#[102, 105, 101, 108, 100, 32, 118, 97, 108, 117, 101, 32, 104, 97, 115, 32, 117, 110, 114, 101, 99, 111, 103, 110, 105, 122, 101, 100, 32, 116, 121, 112, 101]⟩] 120 (0, 0)) ∈ L'' := ⟨_, _ :: L', ⟨v, cm, M, ⟨rd, A, l, c, r0, mb, mr, rfl, hbuf, hrd, hr0, hvX, hdr, hsz, hpX⟩, hV, heb, HH.errD H⟩, by rw [hDe]; exact ((Rel.refl _ _ _ _).head rfl).trans (Rel.one _), m0⟩
    clear H hbuf hrd hr0 hvX hdr hsz hV heb hpX hDe; have hcon := hst'; have hst := hst'
    replace hr := hr.trans hr'
    replace hA8 := hA8.rel hr'
    replace hgs6 := hr'.mem hgs6
    replace hge7 := hr'.mem hge7
    clear hst hr' hcon; have hst := hst'; clear hst'
    have hpX := hst.pX
    have hcon := dec.hb.synS _ _ _ _ _ _ _ _ _ _ _ _ _ _ hst (hB.up (by omega) (by omega)) ((tkQ 3 7 X p) + 1) gn69 (by omega) (by omega) hgn69 ⟨_, _, mgn69⟩
    intro a S
    refine d_call_last (i := 11) (bA 16 4095) S rfl rfl rfl Tryz.func48 rfl rfl hcon (wanted_none rfl) rfl rfl (by kernel_rfl) rfl ?_
    rintro e w ⟨err, eb', D', E', L', rfl, hst', hr', hflt⟩
    refine ⟨_, rfl, ?_⟩;clear S a
    replace hr := hr.trans hr'
    replace hA8 := hA8.rel hr'
    replace hgs6 := hr'.mem hgs6
    replace hge7 := hr'.mem hge7
    replace mgn69 := hr'.mem mgn69
    clear hst hr' hcon; have hst := hst'; clear hst'
    refine qM [12,13,14,15] rfl (qD (pT (pZ (pJ (pU ?_)))))
    have hR : fieldP 1 5 (fun k => k + 1) X p line = ⟨none, some (flt X ((tkQ 3 7 X p) + 1) ((tkQ 3 7 X p) + 1) line), ((tkQ 3 7 X p) + 1), 4, line⟩ := (if_neg (tru_ne hvA8)).trans ((if_neg hn2).trans ((if_neg hn3).trans ((if_neg hn4).trans ((if_neg c44).trans ((if_neg hnbl).trans ((if_neg hnnu)))))))
    intro a S
    rw [hR]
    exact r_ret4 S rfl rfl rfl rfl rfl ⟨_, _, _, _, eb', D', E', L', rfl, (hst.le 0 (Nat.zero_le _)).leK _ (by omega), hr, ⟨.inr ⟨_, rfl, hflt⟩, fun h => by cases h⟩⟩
   revert a;refine pS (pG (pP (p_eql rfl rfl) rfl (pM 1 rfl (pL (pT (zc rfl (fun bc71 => ?_) (fun bc71 => ?_)))))))
   ·
    have c71 := eq_of_beq bc71
    refine pK (pT ?_);intro a S
    exact ⟨rfl, _, S.only ⟨rfl, rfl, rfl, rfl, trivial⟩, ⟨fun h => by have h' := eq_of_beq h; omega, fun h => by rw [beq_iff_eq]; omega⟩⟩
   have c71 := ne_of_beq_false bc71
   refine pS (pG (pP (p_eql rfl rfl) rfl (pM 1 rfl (pL (pT (zc rfl (fun bc73 => ?_) (fun bc73 => ?_)))))))
   ·
    have c73 := eq_of_beq bc73
    refine pK (pT ?_);intro a S
    exact ⟨rfl, _, S.only ⟨rfl, rfl, rfl, rfl, trivial⟩, ⟨fun h => by have h' := eq_of_beq h; omega, fun h => by rw [beq_iff_eq]; omega⟩⟩
   have c73 := ne_of_beq_false bc73
   refine pS (pG (pP (p_eql rfl rfl) rfl (pM 1 rfl (pL (pT (zc rfl (fun bc75 => ?_) (fun bc75 => ?_)))))))
   ·
    have c75 := eq_of_beq bc75
    refine pK (pT ?_);intro a S
    exact ⟨rfl, _, S.only ⟨rfl, rfl, rfl, rfl, trivial⟩, ⟨fun h => by have h' := eq_of_beq h; omega, fun h => by rw [beq_iff_eq]; omega⟩⟩
   have c75 := ne_of_beq_false bc75
   refine pS (pG (pP (p_eql rfl rfl) rfl (pM 1 rfl (pL (pT (zc rfl (fun bc77 => ?_) (fun bc77 => ?_)))))))
   ·
    have c77 := eq_of_beq bc77
    refine pK (pT ?_);intro a S
    exact ⟨rfl, _, S.only ⟨rfl, rfl, rfl, rfl, trivial⟩, ⟨fun h => by have h' := eq_of_beq h; omega, fun h => by rw [beq_iff_eq]; omega⟩⟩
   have c77 := ne_of_beq_false bc77
   refine pS (pG (pP (p_eql rfl rfl) rfl (pM 1 rfl (pL (pT (zc rfl (fun bc79 => ?_) (fun bc79 => ?_)))))))
   ·
    have c79 := eq_of_beq bc79
    refine pK (pT ?_);intro a S
    exact ⟨rfl, _, S.only ⟨rfl, rfl, rfl, rfl, trivial⟩, ⟨fun h => by have h' := eq_of_beq h; omega, fun h => by rw [beq_iff_eq]; omega⟩⟩
   have c79 := ne_of_beq_false bc79
   refine pS (pG (pP (p_eql rfl rfl) rfl (pM 1 rfl (pL (pT (zc rfl (fun bc81 => ?_) (fun bc81 => ?_)))))))
   ·
    have c81 := eq_of_beq bc81
    refine pK (pT ?_);intro a S
    exact ⟨rfl, _, S.only ⟨rfl, rfl, rfl, rfl, trivial⟩, ⟨fun h => by have h' := eq_of_beq h; omega, fun h => by rw [beq_iff_eq]; omega⟩⟩
   have c81 := ne_of_beq_false bc81
   refine pS (pG (pP (p_eql rfl rfl) rfl (pM 1 rfl (pL (pT (zc rfl (fun bc83 => ?_) (fun bc83 => ?_)))))))
   ·
    have c83 := eq_of_beq bc83
    refine pK (pT ?_);intro a S
    exact ⟨rfl, _, S.only ⟨rfl, rfl, rfl, rfl, trivial⟩, ⟨fun h => by have h' := eq_of_beq h; omega, fun h => by rw [beq_iff_eq]; omega⟩⟩
   have c83 := ne_of_beq_false bc83
   refine pS (pG (pP (p_eql rfl rfl) rfl (pM 1 rfl (pL (pT (zc rfl (fun bc85 => ?_) (fun bc85 => ?_)))))))
   ·
    have c85 := eq_of_beq bc85
    refine pK (pT ?_);intro a S
    exact ⟨rfl, _, S.only ⟨rfl, rfl, rfl, rfl, trivial⟩, ⟨fun h => by have h' := eq_of_beq h; omega, fun h => by rw [beq_iff_eq]; omega⟩⟩
   have c85 := ne_of_beq_false bc85
   refine pS (pG (pP (p_eql rfl rfl) rfl (pM 1 rfl (pL (pT (zc rfl (fun bc87 => ?_) (fun bc87 => ?_)))))))
   ·
    have c87 := eq_of_beq bc87
    refine pK (pT ?_);intro a S
    exact ⟨rfl, _, S.only ⟨rfl, rfl, rfl, rfl, trivial⟩, ⟨fun h => by have h' := eq_of_beq h; omega, fun h => by rw [beq_iff_eq]; omega⟩⟩
   have c87 := ne_of_beq_false bc87
   refine pS (pG (pP (p_eql rfl rfl) rfl (pM 1 rfl (pL (pT (zc rfl (fun bc89 => ?_) (fun bc89 => ?_)))))))
   ·
    have c89 := eq_of_beq bc89
    refine pK (pT ?_);intro a S
    exact ⟨rfl, _, S.only ⟨rfl, rfl, rfl, rfl, trivial⟩, ⟨fun h => by have h' := eq_of_beq h; omega, fun h => by rw [beq_iff_eq]; omega⟩⟩
   have c89 := ne_of_beq_false bc89
   refine pS (pG (pP (p_eql rfl rfl) rfl (pM 1 rfl (pL (pT (zc rfl (fun bc91 => ?_) (fun bc91 => ?_)))))))
   ·
    have c91 := eq_of_beq bc91
    refine pK (pT ?_);intro a S
    exact ⟨rfl, _, S.only ⟨rfl, rfl, rfl, rfl, trivial⟩, ⟨fun h => by have h' := eq_of_beq h; omega, fun h => by rw [beq_iff_eq]; omega⟩⟩
   have c91 := ne_of_beq_false bc91
   refine pG (pP (p_eql rfl rfl) rfl (pM 1 rfl (pL (pT ?_))));intro a S
   exact ⟨rfl, _, S.only ⟨rfl, rfl, rfl, rfl, trivial⟩, ⟨fun h => by have h' := eq_of_beq h; omega, fun h => by rw [beq_iff_eq]; omega⟩⟩
  revert a;refine pS (pG (pP (p_eql rfl rfl) rfl (pM 1 rfl (pL (pT (zc rfl (fun bc94 => ?_) (fun bc94 => ?_)))))))
  ·
   have c94 := eq_of_beq bc94
   refine pK (pT ?_);intro a S
   exact ⟨rfl, _, S.only ⟨rfl, rfl, rfl, rfl, trivial⟩, ⟨fun h => by have h' := eq_of_beq h; omega, fun h => by rw [beq_iff_eq]; omega⟩⟩
  have c94 := ne_of_beq_false bc94
  refine pS (pG (pP (p_eql rfl rfl) rfl (pM 1 rfl (pL (pT (zc rfl (fun bc96 => ?_) (fun bc96 => ?_)))))))
  ·
   have c96 := eq_of_beq bc96
   refine pK (pT ?_);intro a S
   exact ⟨rfl, _, S.only ⟨rfl, rfl, rfl, rfl, trivial⟩, ⟨fun h => by have h' := eq_of_beq h; omega, fun h => by rw [beq_iff_eq]; omega⟩⟩
  have c96 := ne_of_beq_false bc96
  refine pS (pG (pP (p_eql rfl rfl) rfl (pM 1 rfl (pL (pT (zc rfl (fun bc98 => ?_) (fun bc98 => ?_)))))))
  ·
   have c98 := eq_of_beq bc98
   refine pK (pT ?_);intro a S
   exact ⟨rfl, _, S.only ⟨rfl, rfl, rfl, rfl, trivial⟩, ⟨fun h => by have h' := eq_of_beq h; omega, fun h => by rw [beq_iff_eq]; omega⟩⟩
  have c98 := ne_of_beq_false bc98
  refine pG (pP (p_eql rfl rfl) rfl (pM 1 rfl (pL (pT ?_))));intro a S
  exact ⟨rfl, _, S.only ⟨rfl, rfl, rfl, rfl, trivial⟩, ⟨fun h => by have h' := eq_of_beq h; omega, fun h => by rw [beq_iff_eq]; omega⟩⟩
 replace hst : ST TY 5 wb w g X ((tkQ 3 7 X p)) ((tkQ 3 7 X p)) ((fsec 2)) false line eb' ((K + 8000)) D' E' L' := hst
 replace hflt : FaultAt 104 101 118 wb.heap.size L' err (flt X p (tkQ 3 7 X p) line) := hflt
 obtain ⟨gf, gn', rfl, hf1, hf2⟩ := id hflt
 refine pM 7 rfl (pL (pT (pS (pS (pG (pM 1 rfl (pP (p_ifnilN mi51 rfl rfl) rfl (pL (pT (zt (pS (pG (pM 5 rfl (pL (pT (pZ (pU ?_)))))))))))))))))
 have hR : fieldP 1 5 (fun k => k + 1) X p line = ⟨none, some (flt X p (tkQ 3 7 X p) line), (tkQ 3 7 X p), 4, line⟩ := (if_pos hvA8)
 intro a S
 rw [hR]
 exact r_ret4 S rfl rfl rfl rfl rfl ⟨_, _, _, _, eb', D', E', L', rfl, (hst.le 0 (Nat.zero_le _)).leK _ (by omega), hr, ⟨.inr ⟨_, rfl, hflt⟩, fun h => by cases h⟩⟩
end hl
end Go.Proofs.YtbahngfpadjbhaaGreatDoor.dec
end
