/- Part of the proof that FnDecodeCRLF answers true at every text, in every world that its card's statement admits; no condition beyond those. -/
import Derived.Test.YtbahngfpadjbhaaGreatDoorR15
import Derived.Test.YtbahngfpadjbhaaGreatDoorR05
import Derived.Test.YtbahngfpadjbhaaGreatDoorR04
set_option linter.unusedVariables false
set_option linter.unusedSimpArgs false
section
namespace Go.Proofs.YtbahngfpadjbhaaGreatDoor.dec
open Go.Proofs.YtbahngfpadjbhaaGreatDoor.fx
open Go.RowKit Go.Proofs.HHW Go.Proofs.YtbahngfpadjbhaaGreatDoorW.PrintWords Go.Proofs.YtbahngfpadjbhaaGreatDoor.dt
namespace ho
theorem bld40_0 (x0_0 : ByteArray) : Tryz.prog.built 40 [(0, (.string x0_0))] = some #[.string x0_0, .slice none 0 0, .slice none 0 0, .string ⟨#[]⟩, .bool false, .bool false, .int .i64 0, .int .i64 0, .bool false, .int .i64 0] := by kernel_rfl
theorem bld40_5 (x0_0 : Bool) (x0_1 : Int) (x0_2 : Int) (x0_3 : Bool) : Tryz.prog.built 40 [(5, (.agg #[.bool x0_0, .int .i64 x0_1, .int .i64 x0_2, .bool x0_3]))] = some #[.string ⟨#[]⟩, .slice none 0 0, .slice none 0 0, .string ⟨#[]⟩, .bool false, .bool x0_0, .int .i64 x0_1, .int .i64 x0_2, .bool x0_3, .int .i64 0] := by kernel_rfl
theorem bld71_0_1_2 (x0_0 : ByteArray) (x1_0 : Int) (x2_0 : ByteArray) : Tryz.prog.built 71 [(0, (.string x0_0)), (1, (.int .i64 x1_0)), (2, (.string x2_0))] = some #[.string x0_0, .int .i64 x1_0, .string x2_0] := by kernel_rfl
set_option maxHeartbeats 1000000 in
theorem tagN (wb w0 : World) (g : Nat) (X : List Int) (p V : Nat) (line : Nat) (eb : Value) (K : Nat) (D E L : dc.Bk) (hst : ST TY 5 wb w0 g X p V 2 false line eb K D E L)  : Calls Tryz.prog 25 #[.pointer (some ⟨g, 0, none⟩)] w0 fun e w' => ∃ (eb' : Value) (D' E' L' : dc.Bk), e = .returned (.tuple #[.slice none 0 0, .slice none 0 0, .nilIface]) ∧ ST TY 5 wb w' g X p V 2 false line eb' K D' E' L' ∧ Rel D E L eb D' E' L' eb' := by
 obtain ⟨eb', D', E', L', hst, hr⟩ : ∃ (eb' : Value) (D' E' L' : dc.Bk), ST TY 5 wb w0 g X p V 2 false line eb' K D' E' L' ∧ Rel D E L eb D' E' L' eb' := ⟨eb, D, E, L, hst, Rel.refl _ _ _ _⟩
 refine c_enter (args := [.pointer (some ⟨g, 0, none⟩)]) (k := 115) Tryz.func25 rfl rfl rfl ?_
 refine pS (pG (pM 3 rfl (pL (pT (pS (pS (pG (pM 1 rfl ?_))))))))
 have hcon := dec.hf.secS _ _ _ _ _ _ _ _ _ _ _ _ _ _ hst 1 (by decide)
 rw [show decide ((2 : Int) = 1) = false from rfl] at hcon
 refine pC Tryz.func20 hcon ?_
 rintro e w ⟨eb', D', E', L', rfl, hst', hr'⟩
 refine ⟨_, rfl, ?_⟩
 replace hr := hr.trans hr'
 clear hst hr' hcon; have hst := hst'; clear hst'
 refine pM 5 rfl (pL (pT (pS (pG (pM 1 rfl (pP (p_nilnilN mi51 rfl) rfl (pL (pT (zf (pS (pG (pM 1 rfl (pP (p_not rfl) rfl (pL (pT (zt (pS (pG (pM 3 rfl (pL (pT (pZ (pU ?_)))))))))))))))))))))));intro a S
 exact r_ret3 S rfl rfl rfl rfl ⟨eb', D', E', L', rfl, hst, hr⟩
set_option maxHeartbeats 2000000 in
theorem entryS (wb w0 : World) (g : Nat) (X : List Int) (p V : Nat) (line : Nat) (eb : Value) (K : Nat) (D E L : dc.Bk) (hst : ST TY 5 wb w0 g X p V 0 false line eb K D E L) (hpV : p ≤ V) (hW : Wb 118 1 2 3 0 wb) (hB : Bd X line K) (hl5 : line ≤ 40000000) (hK5 : K ≤ 70000000) : Calls Tryz.prog 12 #[.pointer (some ⟨g, 0, none⟩)] w0 fun e w' => ∃ (tv fv eb' : Value) (D' E' owT owF : dc.Bk), e = .returned (.agg (entV (entP (X.drop p) line).r tv fv).toArray) ∧ Own 66 2 tv (entP (X.drop p) line).r.tags.length (tagV (entP (X.drop p) line).r.tags) owT ∧ Own 71 3 fv (entP (X.drop p) line).r.fields.length (fieldV (entP (X.drop p) line).r.fields) owF ∧ ST TY 5 wb w' g (X.drop p) ((entP (X.drop p) line).p) 0 ((entP (X.drop p) line).sec) false ((entP (X.drop p) line).line) eb' 70000000 D' E' ((owF ++ (owT ++ L))) := by
 have H := hst.H
 have hXl := hB.len
 refine c_enter (args := [.pointer (some ⟨g, 0, none⟩)]) (k := 98) Tryz.func12 rfl rfl rfl ?_
 refine pS (pG ?_);intro a S
 refine l_alloc (cs := #[.string ⟨#[]⟩, .slice none 0 0, .slice none 0 0, .string ⟨#[]⟩, .bool false, .bool false, .int .i64 0, .int .i64 0, .bool false, .int .i64 0]) S H rfl (fun w => al zv40) rfl rfl rfl ?_; clear S a H; intro g2 w a H S
 revert a;refine pL (pT (pS (pG (pM 1 rfl ?_))))
 have hst1 := hst.to (HH.inB (BL := [_]) H)
 have hcon := dec.hh.nameS _ _ _ _ _ _ _ _ _ _ _ _ hst1 hpV hW hB (by omega) (by omega)
 refine pC Tryz.func23 hcon ?_
 rintro e w ⟨v, err, eb', D', E', L', rfl, hst, hl', hnr⟩
 refine ⟨_, rfl, ?_⟩
 clear H hcon
 obtain ⟨G, rfl⟩ := hl'
 have H := HH.outB (BL := [_]) hst.H
 obtain ⟨⟨hnN, rfl⟩ | ⟨fx, hnN, hflt⟩, hsl⟩ := hnr
 ·
  obtain ⟨⟨A1, c1, rfl, hA1, hc1⟩, hne1⟩ := hsl hnN
  have hl1 := name_len (X.drop p) line
  refine pM 5 rfl (pL (pT (pS (pS (pG (pM 1 rfl (pP (p_nilnilN mi51 rfl) rfl (pL (pT (zf (pK (pT (pS (pG (pM 1 rfl (pR H (r_str rfl Tryz.underlying23 Tryz.underlying5 Tryz.underlying9 (fun w H => hA1.C (HH.backB (BL := [_]) H) (by have hXl := hB.len; rw [List.length_drop] at *; omega))) rfl (pP (p_bld (ps := [(0, .tmp 25)]) rfl (bld40_0 _)) rfl ?_)))))))))))))))));intro a S
  refine l_alloc (cs := #[.string ⟨#[]⟩, .slice none 0 0, .slice none 0 0, .string ⟨#[]⟩, .bool false, .bool false, .int .i64 0, .int .i64 0, .bool false, .int .i64 0]) S H rfl (fun w => al zv40) rfl rfl rfl ?_; clear S a H; intro g5 w a H S
  revert a;refine pF [.string (strOfNums (nameP (X.drop p) line).r), .slice none 0 0, .slice none 0 0, .string ⟨#[]⟩, .bool false, .bool false, .int .i64 0, .int .i64 0, .bool false, .int .i64 0] H rfl rfl sz40 .here ?_;clear H;intro w H
  refine pL (pT ?_);intro a S
  refine c_cut (fun a w => ∃ (acc : List (List Int × List Int)) (q : Nat) (tv eb' : Value) (D' E' owT : dc.Bk), SL a 99 [] [(0, .pointer (some ⟨g, 0, none⟩)), (2, .pointer (some ⟨g2, 0, none⟩)), (5, .pointer (some ⟨g5, 0, none⟩))] ∧ ST TY 5 wb w g (X.drop p) q 0 2 false line eb' ((8000 + 16000 * q)) D' E' (([(g5, Obj.cells #[.string (strOfNums (nameP (X.drop p) line).r), tv, .slice none 0 0, .string ⟨#[]⟩, .bool false, .bool false, .int .i64 0, .int .i64 0, .bool false, .int .i64 0] 40 (0, 0)), (g2, Obj.cells #[.string ⟨#[]⟩, .slice none 0 0, .slice none 0 0, .string ⟨#[]⟩, .bool false, .bool false, .int .i64 0, .int .i64 0, .bool false, .int .i64 0] 40 (0, 0))] ++ (owT ++ L))) ∧ Own 66 2 tv acc.length (tagV acc) owT ∧ (tagsP (X.drop p) ((X.drop p).length + 2) [] (nameP (X.drop p) line).p (nameP (X.drop p) line).sec (nameP (X.drop p) line).line) = ⟨acc, none, q, 2, line⟩) ?_ ?_
  ·
   clear S a H hst; rintro a w ⟨tacc, q0, tv, eb', D', E', owT, S, hst, hoT, hTR⟩
   have hqX := hst.pX
   have hXl := hB.len
   have H := HH.outB (BL := [_, _]) (G := []) hst.H
   obtain ⟨At, ct, rfl, _⟩ := hoT.slice
   refine c_cut (fun a w => ∃ (facc : List (List Int × Int × List Int)) (q ln : Nat) (sc : Int) (fv eb' : Value) (D' E' owF : dc.Bk), SL a 99 [] [(0, .pointer (some ⟨g, 0, none⟩)), (2, .pointer (some ⟨g2, 0, none⟩)), (5, .pointer (some ⟨g5, 0, none⟩))] ∧ ST TY 5 wb w g (X.drop p) q 0 sc false ln eb' ((8000 + 16000 * q)) D' E' (([(g5, Obj.cells #[.string (strOfNums (nameP (X.drop p) line).r), .slice At tacc.length ct, fv, .string ⟨#[]⟩, .bool false, .bool false, .int .i64 0, .int .i64 0, .bool false, .int .i64 0] 40 (0, 0)), (g2, Obj.cells #[.string ⟨#[]⟩, .slice none 0 0, .slice none 0 0, .string ⟨#[]⟩, .bool false, .bool false, .int .i64 0, .int .i64 0, .bool false, .int .i64 0] 40 (0, 0))] ++ (owF ++ (owT ++ L)))) ∧ Own 71 3 fv facc.length (fieldV facc) owF ∧ ln ≤ line + q ∧ (sc = 3 ∨ sc = 5) ∧ (fieldsP (X.drop p) ((X.drop p).length + 2) [] q0 2 line) = ⟨facc, none, q, sc, ln⟩) ?_ ?_
   ·
    clear S a H hst; rintro a w ⟨facc, q, ln, sc, fv, eb', D', E', owF, S, hst, hoF, hlq, hsc, hFR⟩
    have hqX := hst.pX
    have hXl := hB.len
    have hdl : (X.drop p).length = X.length - p := List.length_drop
    have H := HH.outB (BL := [_, _]) (G := []) hst.H
    obtain ⟨Af, cf, rfl, _⟩ := hoF.slice
    rcases hsc with rfl | rfl
    ·
     revert a;refine pS (pG (pM 1 rfl ?_))
     have hst1 := hst.to (HH.inB (BL := [_, _]) H)
     have hcon := dec.hj.timeS _ _ _ _ _ _ _ _ _ _ _ _ hst1 hW ((hB.drop p 0 (by omega)).up (by omega) (by omega)) (by omega) (by omega)
     refine pC Tryz.func27 hcon ?_
     rintro e w ⟨v, err, eb', D', E', L', rfl, hst, hr', htr⟩
     refine ⟨_, rfl, ?_⟩
     clear H hcon
     obtain ⟨G, rfl, _, _⟩ := id hr'
     have H := HH.outB (BL := [_, _]) hst.H
     have hq' := hst.pX
     have htl := time_len (X.drop p) q ln
     obtain ⟨⟨hnf, rfl⟩ | ⟨fx, hnf, hflt⟩, hsl⟩ := htr
     rcases hsl hnf with ⟨hr0, rfl⟩ | ⟨hr0, A1, c1, rfl, hA1, hc1⟩
     ·
      refine pM 5 rfl (pL (pT (pS (pS (pG (pM 1 rfl (pP (p_nilnilN mi51 rfl) rfl (pL (pT (zf (pK (pT (pS (pG (pM 1 rfl (pR H (r_str (l := []) rfl Tryz.underlying23 Tryz.underlying5 Tryz.underlying9 (fun w H => ⟨rfl, by simp, fun h => absurd h (by simp)⟩)) rfl (pM 1 rfl (pP (p_slnilN Tryz.underlying23 rfl) rfl (pA fa40_3 rfl rfl rfl (pE H rfl rfl rfl .here (by first | decide | (simp [spl_size]; done) | simp [Value.cells]) sz9 ?_))))))))))))))))))));clear H;intro w H
      refine pA fa40_4 rfl rfl rfl (pE H rfl rfl rfl .here (by first | decide | (simp [spl_size]; done) | simp [Value.cells]) sz4 ?_);clear H;intro w H
      refine pL (pT (pS (pG (pR H (r_loadn (m := 10) (vs := [.string (strOfNums (nameP (X.drop p) line).r), .slice At tacc.length ct, .slice Af facc.length cf, .string (strOfNums []), .bool false, .bool false, .int .i64 0, .int .i64 0, .bool false, .int .i64 0]) rfl m0 ag40 sz40 rfl rfl) rfl (pF [.string (strOfNums (nameP (X.drop p) line).r), .slice At tacc.length ct, .slice Af facc.length cf, .string (strOfNums []), .bool false, .bool false, .int .i64 0, .int .i64 0, .bool false, .int .i64 0] H rfl rfl sz40 (.there .here) ?_)))));clear H;intro w H
      refine pL (pT (pZ ?_))
      replace H := HH.dropG (BL := [_, _]) H
      have hR : entP (X.drop p) line = ⟨⟨(nameP (X.drop p) line).r, tacc, facc, [], false, none, 0⟩, none, (timeP (X.drop p) q ln).p, (timeP (X.drop p) q ln).sec, (timeP (X.drop p) q ln).line⟩ := by unfold entP; simp [hnN, hTR, hFR, hnf, hr0, -List.length_drop]
      intro a S
      rw [hR]
      exact r_retc1 S rfl rfl (lva (cs := [.string (strOfNums (nameP (X.drop p) line).r), .slice At tacc.length ct, .slice Af facc.length cf, .string (strOfNums []), .bool false, .bool false, .int .i64 0, .int .i64 0, .bool false, .int .i64 0]) ag40 sz40 rfl H m1) ⟨_, _, eb', D', E', owT, owF, rfl, hoT, hoF, (hst.to H.tail.tail).leK _ (by omega)⟩
     ·
      obtain ⟨a1, rfl⟩ := hA1.some hr0
      refine pM 5 rfl (pL (pT (pS (pS (pG (pM 1 rfl (pP (p_nilnilN mi51 rfl) rfl (pL (pT (zf (pK (pT (pS (pG (pM 1 rfl (pR H (r_str rfl Tryz.underlying23 Tryz.underlying5 Tryz.underlying9 (fun w H => hA1.C (HH.backB (BL := [_, _]) H) (by have hXl := hB.len; rw [List.length_drop] at *; omega))) rfl (pM 1 rfl (pP (p_slnilN Tryz.underlying23 rfl) rfl (pA fa40_3 rfl rfl rfl (pE H rfl rfl rfl .here (by first | decide | (simp [spl_size]; done) | simp [Value.cells]) sz9 ?_))))))))))))))))))));clear H;intro w H
      refine pA fa40_4 rfl rfl rfl (pE H rfl rfl rfl .here (by first | decide | (simp [spl_size]; done) | simp [Value.cells]) sz4 ?_);clear H;intro w H
      refine pL (pT (pS (pG (pR H (r_loadn (m := 10) (vs := [.string (strOfNums (nameP (X.drop p) line).r), .slice At tacc.length ct, .slice Af facc.length cf, .string (strOfNums (timeP (X.drop p) q ln).r), .bool true, .bool false, .int .i64 0, .int .i64 0, .bool false, .int .i64 0]) rfl m0 ag40 sz40 rfl rfl) rfl (pF [.string (strOfNums (nameP (X.drop p) line).r), .slice At tacc.length ct, .slice Af facc.length cf, .string (strOfNums (timeP (X.drop p) q ln).r), .bool true, .bool false, .int .i64 0, .int .i64 0, .bool false, .int .i64 0] H rfl rfl sz40 (.there .here) ?_)))));clear H;intro w H
      refine pL (pT (pZ ?_))
      replace H := HH.dropG (BL := [_, _]) H
      have hR : entP (X.drop p) line = ⟨⟨(nameP (X.drop p) line).r, tacc, facc, (timeP (X.drop p) q ln).r, true, none, 0⟩, none, (timeP (X.drop p) q ln).p, (timeP (X.drop p) q ln).sec, (timeP (X.drop p) q ln).line⟩ := by unfold entP; simp [hnN, hTR, hFR, hnf, hr0, -List.length_drop]
      intro a S
      rw [hR]
      exact r_retc1 S rfl rfl (lva (cs := [.string (strOfNums (nameP (X.drop p) line).r), .slice At tacc.length ct, .slice Af facc.length cf, .string (strOfNums (timeP (X.drop p) q ln).r), .bool true, .bool false, .int .i64 0, .int .i64 0, .bool false, .int .i64 0]) ag40 sz40 rfl H m1) ⟨_, _, eb', D', E', owT, owF, rfl, hoT, hoF, (hst.to H.tail.tail).leK _ (by omega)⟩
     obtain ⟨gf, gn', rfl, hf1, hf2⟩ := id hflt
     refine pM 5 rfl (pL (pT (pS (pS (pG (pM 1 rfl (pP (p_ifnilN mi51 rfl rfl) rfl (pL (pT (zt (pS (pG (pM 1 rfl ?_)))))))))))))
     have hcon := dec.hn.faultS _ _ _ _ _ _ _ _ _ _ _ _ _ _ hst _ _ hW hflt
     refine pC Tryz.func24 hcon ?_
     rintro e w ⟨eb', D', E', L', rfl, hst', hr'⟩
     refine ⟨_, rfl, ?_⟩
     clear H hcon
     obtain ⟨G', rfl, _, _⟩ := id hr'
     have hst := hst'
     have hH := hst.H
     rw [← List.append_assoc G' G] at hH
     have H := HH.outB (BL := [_, _]) hH
     replace H := HH.dropG (BL := [_, _]) H
     refine pA fa40_5 rfl rfl rfl ?_;intro a S
     refine l_stores (vs := [.bool true, .int .i64 fx.1, .int .i64 fx.2, .bool false]) S H rfl rfl rfl sz38 .here (by simp) (fun v hv => by simp only [List.mem_cons, List.not_mem_nil, or_false] at hv; rcases hv with rfl | rfl | rfl | rfl <;> rfl) rfl rfl ?_; clear S a H; intro w a H S
     revert a;refine pA fa40_6 rfl rfl rfl (pE H rfl rfl rfl .here (by first | decide | (simp [spl_size]; done) | simp [Value.cells]) sz3 ?_);clear H;intro w H
     refine pL (pT (pS (pG (pR H (r_loadn (m := 10) (vs := [.string (strOfNums (nameP (X.drop p) line).r), .slice At tacc.length ct, .slice Af facc.length cf, .string ⟨#[]⟩, .bool false, .bool true, .int .i64 fx.1, .int .i64 fx.2, .bool false, .int .i64 3]) rfl m0 ag40 sz40 rfl rfl) rfl (pF [.string (strOfNums (nameP (X.drop p) line).r), .slice At tacc.length ct, .slice Af facc.length cf, .string ⟨#[]⟩, .bool false, .bool true, .int .i64 fx.1, .int .i64 fx.2, .bool false, .int .i64 3] H rfl rfl sz40 (.there .here) ?_)))));clear H;intro w H
     refine pL (pT (pZ (pU ?_)))
     have hR : entP (X.drop p) line = ⟨⟨(nameP (X.drop p) line).r, tacc, facc, [], false, some fx, 3⟩, none, (timeP (X.drop p) q ln).p, (timeP (X.drop p) q ln).sec, (timeP (X.drop p) q ln).line⟩ := by unfold entP; simp [hnN, hTR, hFR, hnf, -List.length_drop]
     intro a S
     rw [hR]
     exact r_retc1 S rfl rfl (lva (cs := [.string (strOfNums (nameP (X.drop p) line).r), .slice At tacc.length ct, .slice Af facc.length cf, .string ⟨#[]⟩, .bool false, .bool true, .int .i64 fx.1, .int .i64 fx.2, .bool false, .int .i64 3]) ag40 sz40 rfl H m1) ⟨_, _, eb', D', E', owT, owF, rfl, hoT, hoF, (hst.to H.tail.tail).leK _ (by omega)⟩
    revert a;refine pS (pG (pM 1 rfl ?_))
    have hst1 := hst.to (HH.inB (BL := [_, _]) H)
    have hcon := dec.hj.timeN _ _ _ _ _ _ _ _ _ _ _ _ hst1
    refine pC Tryz.func27 hcon ?_
    rintro e w ⟨eb', D', E', L', rfl, hst, hr'⟩
    refine ⟨_, rfl, ?_⟩
    clear H hcon
    obtain ⟨G, rfl, _, _⟩ := id hr'
    have H := HH.outB (BL := [_, _]) hst.H
    refine pP (p_move rfl) rfl (pP (p_extract rfl rfl) rfl (pP (p_extract rfl rfl) rfl (pP (p_assign rfl) rfl (pP (p_assign rfl) rfl (pL (pT (pS (pS (pG (pM 1 rfl (pP (p_nilnilN mi51 rfl) rfl (pL (pT (zf (pK (pT (pS (pG (pM 1 rfl (pR H (r_str (l := []) rfl Tryz.underlying23 Tryz.underlying5 Tryz.underlying9 (fun w H => ⟨rfl, by simp, fun h => absurd h (by simp)⟩)) rfl (pM 1 rfl (pP (p_slnilN Tryz.underlying23 rfl) rfl (pA fa40_3 rfl rfl rfl (pE H rfl rfl rfl .here (by first | decide | (simp [spl_size]; done) | simp [Value.cells]) sz9 ?_))))))))))))))))))))))));clear H;intro w H
    refine pA fa40_4 rfl rfl rfl (pE H rfl rfl rfl .here (by first | decide | (simp [spl_size]; done) | simp [Value.cells]) sz4 ?_);clear H;intro w H
    refine pL (pT (pS (pG (pR H (r_loadn (m := 10) (vs := [.string (strOfNums (nameP (X.drop p) line).r), .slice At tacc.length ct, .slice Af facc.length cf, .string (strOfNums []), .bool false, .bool false, .int .i64 0, .int .i64 0, .bool false, .int .i64 0]) rfl m0 ag40 sz40 rfl rfl) rfl (pF [.string (strOfNums (nameP (X.drop p) line).r), .slice At tacc.length ct, .slice Af facc.length cf, .string (strOfNums []), .bool false, .bool false, .int .i64 0, .int .i64 0, .bool false, .int .i64 0] H rfl rfl sz40 (.there .here) ?_)))));clear H;intro w H
    refine pL (pT (pZ ?_))
    replace H := HH.dropG (BL := [_, _]) H
    have hR : entP (X.drop p) line = ⟨⟨(nameP (X.drop p) line).r, tacc, facc, [], false, none, 0⟩, none, q, 5, ln⟩ := by unfold entP; simp [hnN, hTR, hFR, -List.length_drop]
    intro a S
    rw [hR]
    exact r_retc1 S rfl rfl (lva (cs := [.string (strOfNums (nameP (X.drop p) line).r), .slice At tacc.length ct, .slice Af facc.length cf, .string (strOfNums []), .bool false, .bool false, .int .i64 0, .int .i64 0, .bool false, .int .i64 0]) ag40 sz40 rfl H m1) ⟨_, _, eb', D', E', owT, owF, rfl, hoT, hoF, (hst.to H.tail.tail).leK _ (by omega)⟩
   revert a;refine pB ?_
   have hst1 := hst
   intro a S
   refine c_loop (σ := List (List Int × Int × List Int) × Nat × Int × Nat × Nat) (fun s_ a w => match s_ with | ⟨acc, q, sc, ln, f⟩ => SL a 99 [] [(0, .pointer (some ⟨g, 0, none⟩)), (2, .pointer (some ⟨g2, 0, none⟩)), (5, .pointer (some ⟨g5, 0, none⟩))] ∧ ∃ (fv eb' : Value) (D' E' owF : dc.Bk), ST TY 5 wb w g (X.drop p) q 0 sc false ln eb' ((8000 + 16000 * q)) D' E' (([(g5, Obj.cells #[.string (strOfNums (nameP (X.drop p) line).r), .slice At tacc.length ct, fv, .string ⟨#[]⟩, .bool false, .bool false, .int .i64 0, .int .i64 0, .bool false, .int .i64 0] 40 (0, 0)), (g2, Obj.cells #[.string ⟨#[]⟩, .slice none 0 0, .slice none 0 0, .string ⟨#[]⟩, .bool false, .bool false, .int .i64 0, .int .i64 0, .bool false, .int .i64 0] 40 (0, 0))] ++ (owF ++ (owT ++ L)))) ∧ Own 71 3 fv acc.length (fieldV acc) owF ∧ (sc = 2 ∨ sc = 3 ∨ sc = 5) ∧ acc.length ≤ q ∧ (X.drop p).length - q < f ∧ ln ≤ line + q ∧ (fieldsP (X.drop p) ((X.drop p).length + 2) [] q0 2 line) = fieldsP (X.drop p) f acc q sc ln) (fun s_ => match s_ with | ⟨acc, q, sc, ln, f⟩ => (X.drop p).length - q + (if sc = 2 then 1 else 0)) ⟨[], q0, 2, line, ((X.drop p).length + 2)⟩ ⟨S.only ⟨rfl, rfl, rfl, trivial⟩, .slice none 0 0, eb', D', E', [], hst1, own_nil' _ _, .inl rfl, Nat.zero_le _, by omega, by omega, rfl⟩ ?_
   clear S a H hst hst1; rintro ⟨acc, q, sc, ln, f⟩ a w ⟨S, fv, eb', D', E', owF, hst, hoF, hsc, haq, hf, hlq, hT⟩
   have hqX := hst.pX
   have hXl := hB.len
   have hdl : (X.drop p).length = X.length - p := List.length_drop
   have H := HH.outB (BL := [_, _]) (G := []) hst.H
   obtain ⟨f, rfl⟩ : ∃ k, f = k + 1 := ⟨f - 1, by omega⟩
   obtain ⟨Af, cf, rfl, _⟩ := hoF.slice
   rcases hsc with rfl | rfl | rfl
   ·
    revert a;refine pB (pS (pG (pM 1 rfl ?_)))
    have hst1 := hst.to (HH.inB (BL := [_, _]) H)
    have hcon := dec.hl.fieldS _ _ _ _ _ _ _ _ _ _ _ _ hst1 hW ((hB.drop p 0 (by omega)).up (by omega) (by omega)) (by omega) (by omega)
    refine pC Tryz.func26 hcon ?_
    rintro e w ⟨v, kd, v', err, eb', D', E', L', rfl, hst, hr', htr⟩
    refine ⟨_, rfl, ?_⟩
    clear H hcon
    obtain ⟨G, rfl, _, _⟩ := id hr'
    have H := HH.outB (BL := [_, _]) hst.H
    have hq' : (fieldQ (X.drop p) q ln).p ≤ (X.drop p).length := hst.pX
    obtain ⟨hfa, hfb, hfc⟩ := field_far (line := ln) hqX
    obtain ⟨⟨hnf, rfl⟩ | ⟨fx, hnf, hflt⟩, hsl⟩ := htr
    ·
     obtain ⟨kv, hr0, ⟨A1, c1, rfl, hA1, hc1⟩, hne1, rfl, A2, c2, rfl, hA2, hc2⟩ := hsl hnf
     obtain ⟨hk1, hk2, hrs⟩ := field_r hr0
     obtain ⟨hkk1, hkk2⟩ := field_kind hr0
     have hfr := hfc (by rw [hr0]; exact nofun)
     obtain ⟨a1, rfl⟩ := hA1.some hne1
     refine pM 9 rfl (pL (pT (pS (pS (pG (pM 1 rfl (pP (p_nilnilN mi51 rfl) rfl (pL (pT (zf (pK (pT (pS (pS (pG (pM 1 rfl (pP (p_slnil Tryz.underlying23 rfl) rfl (pL (pT (zf (pK (pT (pG (pA fa40_2 rfl rfl rfl (pD H rfl rfl m0 rfl ag36 rfl (pM 1 rfl (pR H (r_str rfl Tryz.underlying23 Tryz.underlying5 Tryz.underlying9 (fun w H => hA1.C (HH.backB (BL := [_, _]) H) (by have hXl := hB.len; rw [List.length_drop] at *; omega))) rfl (pM 1 rfl (pP (p_conv rfl (fun w => cv_int (Tryz.underlying67) (Tryz.underlying3) (r := kv.2.1) (IntWalk.i64_in _ (by omega)))) rfl (pM 1 rfl (pR H (r_str rfl Tryz.underlying23 Tryz.underlying5 Tryz.underlying9 (fun w H => hA2.C (HH.backB (BL := [_, _]) H) (by have hXl := hB.len; rw [List.length_drop] at *; omega))) rfl (pP (p_bld (ps := [(0, .tmp 71), (1, .tmp 73), (2, .tmp 75)]) rfl (bld71_0_1_2 _ _ _)) rfl ?_))))))))))))))))))))))))))))))));intro a S
     refine l_litR (ps := [(0, .tmp 76)]) (cells := #[.string (strOfNums kv.1), .int .i64 kv.2.1, .string (strOfNums kv.2.2)]) (e := 71) S H rfl rfl (fun w => litFd w _ _ _) rfl rfl rfl ?_; clear S a H; intro gl w a H S
     replace H := HH.up (BL := [_, _, _]) (G := owF) (R := (owT ++ L)) (HH.dropG (BL := [_, _, _]) H)
     refine l_own (n := acc.length) (m := 1) [_, _, _] (xs := fieldV acc) (ow := owF) S H rfl rfl rfl hoF (src_litS (c := 1) (n := 1) (s := 3) (vs := [.string (strOfNums kv.1), .int .i64 kv.2.1, .string (strOfNums kv.2.2)]) H m0 Tryz.underlying36 rfl (by simp [Value.oneCell'])) Tryz.underlying36 in71 rfl (by omega) (by decide) rfl rfl rfl ?_; clear S a H; intro v' ow' w a ho' H S
     replace H := (HH.down (BL := [_, _, _]) H).tail
     obtain ⟨A', c', rfl, _⟩ := ho'.slice
     revert a;refine pA fa40_2 rfl rfl rfl (pE H rfl rfl rfl .here (by first | decide | (simp [spl_size]; done) | simp [Value.cells]) sz36 ?_);clear H;intro w H
     refine pL (pI 3 (pT ?_))
     have hst1 := (hst.to (HH.inB (BL := [_, _]) H)).leK (8000 + 16000 * (fieldQ (X.drop p) q ln).p) (by omega)
     intro a S
     exact ⟨⟨acc ++ [kv], (fieldQ (X.drop p) q ln).p, (fieldQ (X.drop p) q ln).sec, (fieldQ (X.drop p) q ln).line, f⟩, ⟨S.only ⟨rfl, rfl, rfl, trivial⟩, _, eb', D', E', ow', hst1, by rw [List.length_append]; simpa [fieldV, List.flatMap_append] using ho', hrs, by rw [List.length_append, List.length_singleton]; omega, by omega, by omega, hT.trans (by rw [fieldsP, if_neg (by decide), hnf, hr0])⟩, (show (X.drop p).length - (fieldQ (X.drop p) q ln).p + (if (fieldQ (X.drop p) q ln).sec = 2 then 1 else 0) < (X.drop p).length - q + (if (2 : Int) = 2 then 1 else 0) from by split <;> (rw [if_pos rfl]; omega))⟩
    obtain ⟨gf, gn', rfl, hf1, hf2⟩ := id hflt
    refine pM 9 rfl (pL (pT (pS (pS (pG (pM 1 rfl (pP (p_ifnilN mi51 rfl rfl) rfl (pL (pT (zt (pS (pG (pM 1 rfl ?_)))))))))))))
    have hcon := dec.hn.faultS _ _ _ _ _ _ _ _ _ _ _ _ _ _ hst _ _ hW hflt
    refine pC Tryz.func24 hcon ?_
    rintro e w ⟨eb', D', E', L', rfl, hst', hr'⟩
    refine ⟨_, rfl, ?_⟩
    clear H hcon
    obtain ⟨G', rfl, _, _⟩ := id hr'
    have hst := hst'
    have hH := hst.H
    rw [← List.append_assoc G' G] at hH
    have H := HH.outB (BL := [_, _]) hH
    replace H := HH.dropG (BL := [_, _]) H
    refine pA fa40_5 rfl rfl rfl ?_;intro a S
    refine l_stores (vs := [.bool true, .int .i64 fx.1, .int .i64 fx.2, .bool false]) S H rfl rfl rfl sz38 .here (by simp) (fun v hv => by simp only [List.mem_cons, List.not_mem_nil, or_false] at hv; rcases hv with rfl | rfl | rfl | rfl <;> rfl) rfl rfl ?_; clear S a H; intro w a H S
    revert a;refine pA fa40_6 rfl rfl rfl (pE H rfl rfl rfl .here (by first | decide | (simp [spl_size]; done) | simp [Value.cells]) sz3 ?_);clear H;intro w H
    refine pL (pT (pS (pG (pR H (r_loadn (m := 10) (vs := [.string (strOfNums (nameP (X.drop p) line).r), .slice At tacc.length ct, .slice Af acc.length cf, .string ⟨#[]⟩, .bool false, .bool true, .int .i64 fx.1, .int .i64 fx.2, .bool false, .int .i64 2]) rfl m0 ag40 sz40 rfl rfl) rfl (pF [.string (strOfNums (nameP (X.drop p) line).r), .slice At tacc.length ct, .slice Af acc.length cf, .string ⟨#[]⟩, .bool false, .bool true, .int .i64 fx.1, .int .i64 fx.2, .bool false, .int .i64 2] H rfl rfl sz40 (.there .here) ?_)))));clear H;intro w H
    refine pL (pT (pZ (pU (pJ (pU (pJ (pU ?_)))))))
    have hFt : (fieldsP (X.drop p) ((X.drop p).length + 2) [] q0 2 line) = ⟨acc, some fx, (fieldQ (X.drop p) q ln).p, (fieldQ (X.drop p) q ln).sec, (fieldQ (X.drop p) q ln).line⟩ := hT.trans (by rw [fieldsP, if_neg (by decide), hnf])
    have hR : entP (X.drop p) line = ⟨⟨(nameP (X.drop p) line).r, tacc, acc, [], false, some fx, 2⟩, none, (fieldQ (X.drop p) q ln).p, (fieldQ (X.drop p) q ln).sec, (fieldQ (X.drop p) q ln).line⟩ := by unfold entP; simp [hnN, hTR, hFt, -List.length_drop]
    intro a S
    rw [hR]
    exact r_retc1 S rfl rfl (lva (cs := [.string (strOfNums (nameP (X.drop p) line).r), .slice At tacc.length ct, .slice Af acc.length cf, .string ⟨#[]⟩, .bool false, .bool true, .int .i64 fx.1, .int .i64 fx.2, .bool false, .int .i64 2]) ag40 sz40 rfl H m1) ⟨_, _, eb', D', E', owT, owF, rfl, hoT, hoF, (hst.to H.tail.tail).leK _ (by omega)⟩
   ·
    revert a;refine pB (pS (pG (pM 1 rfl ?_)))
    have hst1 := hst.to (HH.inB (BL := [_, _]) H)
    have hcon := dec.hl.fieldN3 _ _ _ _ _ _ _ _ _ _ _ _ hst1
    refine pC Tryz.func26 hcon ?_
    rintro e w ⟨eb', D', E', L', rfl, hst, hr'⟩
    refine ⟨_, rfl, ?_⟩
    clear H hcon
    obtain ⟨G, rfl, _, _⟩ := id hr'
    have H := HH.outB (BL := [_, _]) hst.H
    replace H := HH.dropG (BL := [_, _]) H
    refine pP (p_move rfl) rfl (pP (p_extract rfl rfl) rfl (pP (p_extract rfl rfl) rfl (pP (p_extract rfl rfl) rfl (pP (p_extract rfl rfl) rfl (pP (p_assign rfl) rfl (pP (p_assign rfl) rfl (pP (p_assign rfl) rfl (pP (p_assign rfl) rfl (pL (pT (pS (pS (pG (pM 1 rfl (pP (p_nilnilN mi51 rfl) rfl (pL (pT (zf (pK (pT (pS (pS (pG (pM 1 rfl (pP (p_slnil Tryz.underlying23 rfl) rfl (pL (pT (zt (pX (pV (pY rfl (pV (pW (pT ?_))))))))))))))))))))))))))))))))));intro a S
    exact ⟨acc, q, ln, 3, _, eb', D', E', owF, S.only ⟨rfl, rfl, rfl, trivial⟩, hst.to (HH.inB (BL := [_, _]) H), hoF, hlq, (by decide), hT.trans (by rw [fieldsP, if_pos (by decide)])⟩
   revert a;refine pB (pS (pG (pM 1 rfl ?_)))
   have hst1 := hst.to (HH.inB (BL := [_, _]) H)
   have hcon := dec.hl.fieldN5 _ _ _ _ _ _ _ _ _ _ _ _ hst1
   refine pC Tryz.func26 hcon ?_
   rintro e w ⟨eb', D', E', L', rfl, hst, hr'⟩
   refine ⟨_, rfl, ?_⟩
   clear H hcon
   obtain ⟨G, rfl, _, _⟩ := id hr'
   have H := HH.outB (BL := [_, _]) hst.H
   replace H := HH.dropG (BL := [_, _]) H
   refine pP (p_move rfl) rfl (pP (p_extract rfl rfl) rfl (pP (p_extract rfl rfl) rfl (pP (p_extract rfl rfl) rfl (pP (p_extract rfl rfl) rfl (pP (p_assign rfl) rfl (pP (p_assign rfl) rfl (pP (p_assign rfl) rfl (pP (p_assign rfl) rfl (pL (pT (pS (pS (pG (pM 1 rfl (pP (p_nilnilN mi51 rfl) rfl (pL (pT (zf (pK (pT (pS (pS (pG (pM 1 rfl (pP (p_slnil Tryz.underlying23 rfl) rfl (pL (pT (zt (pX (pV (pY rfl (pV (pW (pT ?_))))))))))))))))))))))))))))))))));intro a S
   exact ⟨acc, q, ln, 5, _, eb', D', E', owF, S.only ⟨rfl, rfl, rfl, trivial⟩, hst.to (HH.inB (BL := [_, _]) H), hoF, hlq, (by decide), hT.trans (by rw [fieldsP, if_pos (by decide)])⟩
  revert a;refine pB ?_
  replace H := HH.dropG (BL := [_, _]) H
  have hst1 := (hst.to (HH.inB (BL := [_, _]) H)).leK (8000 + 16000 * (nameP (X.drop p) line).p) (by omega)
  have hnl := name_line (X.drop p) line
  have hns : (nameP (X.drop p) line).sec = 1 := name_sec hnN
  rw [hnl, hns] at hst1
  intro a S
  refine c_loop (σ := List (List Int × List Int) × Nat × Int × Nat) (fun s_ a w => match s_ with | ⟨acc, q, sc, f⟩ => SL a 99 [] [(0, .pointer (some ⟨g, 0, none⟩)), (2, .pointer (some ⟨g2, 0, none⟩)), (5, .pointer (some ⟨g5, 0, none⟩))] ∧ ∃ (tv eb' : Value) (D' E' owT : dc.Bk), ST TY 5 wb w g (X.drop p) q 0 sc false line eb' ((8000 + 16000 * q)) D' E' (([(g5, Obj.cells #[.string (strOfNums (nameP (X.drop p) line).r), tv, .slice none 0 0, .string ⟨#[]⟩, .bool false, .bool false, .int .i64 0, .int .i64 0, .bool false, .int .i64 0] 40 (0, 0)), (g2, Obj.cells #[.string ⟨#[]⟩, .slice none 0 0, .slice none 0 0, .string ⟨#[]⟩, .bool false, .bool false, .int .i64 0, .int .i64 0, .bool false, .int .i64 0] 40 (0, 0))] ++ (owT ++ L))) ∧ Own 66 2 tv acc.length (tagV acc) owT ∧ (sc = 1 ∨ sc = 2) ∧ acc.length ≤ q ∧ (X.drop p).length - q < f ∧ (tagsP (X.drop p) ((X.drop p).length + 2) [] (nameP (X.drop p) line).p (nameP (X.drop p) line).sec (nameP (X.drop p) line).line) = tagsP (X.drop p) f acc q sc line) (fun s_ => match s_ with | ⟨acc, q, sc, f⟩ => (X.drop p).length - q + (if sc = 1 then 1 else 0)) ⟨[], (nameP (X.drop p) line).p, 1, ((X.drop p).length + 2)⟩ ⟨S.only ⟨rfl, rfl, rfl, trivial⟩, .slice none 0 0, eb', D', E', [], hst1, own_nil' _ _, .inl rfl, Nat.zero_le _, by omega, by rw [hnl, hns]⟩ ?_
  clear S a H hst hst1; rintro ⟨acc, q, sc, f⟩ a w ⟨S, tv, eb', D', E', owT, hst, hoT, hsc, haq, hf, hT⟩
  have hqX := hst.pX
  have hXl := hB.len
  have hdl : (X.drop p).length = X.length - p := List.length_drop
  have H := HH.outB (BL := [_, _]) (G := []) hst.H
  obtain ⟨f, rfl⟩ : ∃ k, f = k + 1 := ⟨f - 1, by omega⟩
  obtain ⟨At, ct, rfl, _⟩ := hoT.slice
  rcases hsc with rfl | rfl
  ·
   revert a;refine pB (pS (pG (pM 1 rfl ?_)))
   have hst1 := hst.to (HH.inB (BL := [_, _]) H)
   have hcon := dec.hi.tagS _ _ _ _ _ _ _ _ _ _ _ _ hst1 hW ((hB.drop p 0 (by omega)).up (by omega) (by omega)) (by omega) (by omega)
   refine pC Tryz.func25 hcon ?_
   rintro e w ⟨v, v', err, eb', D', E', L', rfl, hst, hr', htr⟩
   refine ⟨_, rfl, ?_⟩
   clear H hcon
   obtain ⟨G, rfl, _, _⟩ := id hr'
   have H := HH.outB (BL := [_, _]) hst.H
   have hq' := hst.pX
   obtain ⟨⟨hnf, rfl⟩ | ⟨fx, hnf, hflt⟩, hsl⟩ := htr
   rcases hsl hnf with ⟨hr0, rfl⟩ | ⟨kv, hr0, ⟨A1, c1, rfl, hA1, hc1⟩, hne1, A2, c2, rfl, hA2, hc2⟩
   ·
    have hrs := tag_none hnf hr0
    have hrl := tag_line (X.drop p) q line
    refine pM 7 rfl (pL (pT (pS (pS (pG (pM 1 rfl (pP (p_nilnilN mi51 rfl) rfl (pL (pT (zf (pK (pT (pS (pS (pG (pM 1 rfl (pP (p_slnil Tryz.underlying23 rfl) rfl (pL (pT (zt (pX (pV (pY rfl (pV (pW (pT ?_))))))))))))))))))))))))))
    replace H := HH.dropG (BL := [_, _]) H
    have hfn := tag_fn hnf hr0
    have hst1 := (hst.to (HH.inB (BL := [_, _]) H)).leK (8000 + 16000 * (tagP (X.drop p) q line).p) (by omega)
    intro a S
    exact ⟨acc, (tagP (X.drop p) q line).p, _, eb', D', E', owT, S.only ⟨rfl, rfl, rfl, trivial⟩, (by rw [hrs, hrl] at hst1; exact hst1), hoT, hT.trans (by rw [tagsP, if_neg (by decide), hnf, hr0]; simp only [hrs, hrl])⟩
   ·
    obtain ⟨hk1, hk2⟩ := tag_len hr0
    obtain ⟨hfr, hrl, hrs⟩ := tag_far hqX hr0
    obtain ⟨a1, rfl⟩ := hA1.some hne1
    refine pM 7 rfl (pL (pT (pS (pS (pG (pM 1 rfl (pP (p_nilnilN mi51 rfl) rfl (pL (pT (zf (pK (pT (pS (pS (pG (pM 1 rfl (pP (p_slnil Tryz.underlying23 rfl) rfl (pL (pT (zf (pK (pT (pG (pA fa40_1 rfl rfl rfl (pD H rfl rfl m0 rfl ag35 rfl (pM 1 rfl (pR H (r_str rfl Tryz.underlying23 Tryz.underlying5 Tryz.underlying9 (fun w H => hA1.C (HH.backB (BL := [_, _]) H) (by have hXl := hB.len; rw [List.length_drop] at *; omega))) rfl (pM 1 rfl (pR H (r_str rfl Tryz.underlying23 Tryz.underlying5 Tryz.underlying9 (fun w H => hA2.C (HH.backB (BL := [_, _]) H) (by have hXl := hB.len; rw [List.length_drop] at *; omega))) rfl (pP (p_bld (ps := [(0, .tmp 45), (1, .tmp 47)]) rfl (bld66_0_1 _ _)) rfl ?_))))))))))))))))))))))))))))));intro a S
    refine l_litR (ps := [(0, .tmp 48)]) (cells := #[.string (strOfNums kv.1), .string (strOfNums kv.2)]) (e := 66) S H rfl rfl (fun w => litP w _ _) rfl rfl rfl ?_; clear S a H; intro gl w a H S
    replace H := HH.up (BL := [_, _, _]) (G := owT) (R := L) (HH.dropG (BL := [_, _, _]) H)
    refine l_own (n := acc.length) (m := 1) [_, _, _] (xs := tagV acc) (ow := owT) S H rfl rfl rfl hoT (src_litS (c := 1) (n := 1) (s := 2) (vs := [.string (strOfNums kv.1), .string (strOfNums kv.2)]) H m0 Tryz.underlying35 rfl (by simp [Value.oneCell'])) Tryz.underlying35 in66 rfl (by omega) (by decide) rfl rfl rfl ?_; clear S a H; intro v' ow' w a ho' H S
    replace H := (HH.down (BL := [_, _, _]) H).tail
    obtain ⟨A', c', rfl, _⟩ := ho'.slice
    revert a;refine pA fa40_1 rfl rfl rfl (pE H rfl rfl rfl .here (by first | decide | (simp [spl_size]; done) | simp [Value.cells]) sz35 ?_);clear H;intro w H
    refine pL (pI 1 (pT ?_))
    have hst1 := (hst.to (HH.inB (BL := [_, _]) H)).leK (8000 + 16000 * (tagP (X.drop p) q line).p) (by omega)
    rw [hrl] at hst1
    intro a S
    exact ⟨⟨acc ++ [kv], (tagP (X.drop p) q line).p, (tagP (X.drop p) q line).sec, f⟩, ⟨S.only ⟨rfl, rfl, rfl, trivial⟩, _, eb', D', E', ow', hst1, by rw [List.length_append]; simpa [tagV, List.flatMap_append] using ho', hrs, by rw [List.length_append, List.length_singleton]; omega, by omega, hT.trans (by rw [tagsP, if_neg (by decide), hnf, hr0]; simp only [hrl])⟩, (show (X.drop p).length - (tagP (X.drop p) q line).p + (if (tagP (X.drop p) q line).sec = 1 then 1 else 0) < (X.drop p).length - q + (if (1 : Int) = 1 then 1 else 0) from by split <;> (rw [if_pos rfl]; omega))⟩
   obtain ⟨gf, gn', rfl, hf1, hf2⟩ := id hflt
   refine pM 7 rfl (pL (pT (pS (pS (pG (pM 1 rfl (pP (p_ifnilN mi51 rfl rfl) rfl (pL (pT (zt (pS (pG (pM 1 rfl ?_)))))))))))))
   have hcon := dec.hn.faultS _ _ _ _ _ _ _ _ _ _ _ _ _ _ hst _ _ hW hflt
   refine pC Tryz.func24 hcon ?_
   rintro e w ⟨eb', D', E', L', rfl, hst', hr'⟩
   refine ⟨_, rfl, ?_⟩
   clear H hcon
   obtain ⟨G', rfl, _, _⟩ := id hr'
   have hst := hst'
   have hH := hst.H
   rw [← List.append_assoc G' G] at hH
   have H := HH.outB (BL := [_, _]) hH
   replace H := HH.dropG (BL := [_, _]) H
   refine pA fa40_5 rfl rfl rfl ?_;intro a S
   refine l_stores (vs := [.bool true, .int .i64 fx.1, .int .i64 fx.2, .bool false]) S H rfl rfl rfl sz38 .here (by simp) (fun v hv => by simp only [List.mem_cons, List.not_mem_nil, or_false] at hv; rcases hv with rfl | rfl | rfl | rfl <;> rfl) rfl rfl ?_; clear S a H; intro w a H S
   revert a;refine pA fa40_6 rfl rfl rfl (pE H rfl rfl rfl .here (by first | decide | (simp [spl_size]; done) | simp [Value.cells]) sz3 ?_);clear H;intro w H
   refine pL (pT (pS (pG (pR H (r_loadn (m := 10) (vs := [.string (strOfNums (nameP (X.drop p) line).r), .slice At acc.length ct, .slice none 0 0, .string ⟨#[]⟩, .bool false, .bool true, .int .i64 fx.1, .int .i64 fx.2, .bool false, .int .i64 1]) rfl m0 ag40 sz40 rfl rfl) rfl (pF [.string (strOfNums (nameP (X.drop p) line).r), .slice At acc.length ct, .slice none 0 0, .string ⟨#[]⟩, .bool false, .bool true, .int .i64 fx.1, .int .i64 fx.2, .bool false, .int .i64 1] H rfl rfl sz40 (.there .here) ?_)))));clear H;intro w H
   refine pL (pT (pZ (pU (pJ (pU (pJ (pU ?_)))))))
   have hTt : (tagsP (X.drop p) ((X.drop p).length + 2) [] (nameP (X.drop p) line).p (nameP (X.drop p) line).sec (nameP (X.drop p) line).line) = ⟨acc, some fx, (tagP (X.drop p) q line).p, (tagP (X.drop p) q line).sec, (tagP (X.drop p) q line).line⟩ := hT.trans (by rw [tagsP, if_neg (by decide), hnf])
   have hR : entP (X.drop p) line = ⟨⟨(nameP (X.drop p) line).r, acc, [], [], false, some fx, 1⟩, none, (tagP (X.drop p) q line).p, (tagP (X.drop p) q line).sec, (tagP (X.drop p) q line).line⟩ := by unfold entP; simp [hnN, hTt, -List.length_drop]
   intro a S
   rw [hR]
   exact r_retc1 S rfl rfl (lva (cs := [.string (strOfNums (nameP (X.drop p) line).r), .slice At acc.length ct, .slice none 0 0, .string ⟨#[]⟩, .bool false, .bool true, .int .i64 fx.1, .int .i64 fx.2, .bool false, .int .i64 1]) ag40 sz40 rfl H m1) ⟨_, _, eb', D', E', owT, [], rfl, hoT, own_nil' _ _, (hst.to H.tail.tail).leK _ (by omega)⟩
  revert a;refine pB (pS (pG (pM 1 rfl ?_)))
  have hst1 := hst.to (HH.inB (BL := [_, _]) H)
  have hcon := tagN _ _ _ _ _ _ _ _ _ _ _ _ hst1
  refine pC Tryz.func25 hcon ?_
  rintro e w ⟨eb', D', E', L', rfl, hst, hr'⟩
  refine ⟨_, rfl, ?_⟩
  clear H hcon
  obtain ⟨G, rfl, _, _⟩ := id hr'
  have H := HH.outB (BL := [_, _]) hst.H
  replace H := HH.dropG (BL := [_, _]) H
  refine pP (p_move rfl) rfl (pP (p_extract rfl rfl) rfl (pP (p_extract rfl rfl) rfl (pP (p_extract rfl rfl) rfl (pP (p_assign rfl) rfl (pP (p_assign rfl) rfl (pP (p_assign rfl) rfl (pL (pT (pS (pS (pG (pM 1 rfl (pP (p_nilnilN mi51 rfl) rfl (pL (pT (zf (pK (pT (pS (pS (pG (pM 1 rfl (pP (p_slnil Tryz.underlying23 rfl) rfl (pL (pT (zt (pX (pV (pY rfl (pV (pW (pT ?_))))))))))))))))))))))))))))))))
  have hst1 := (hst.to (HH.inB (BL := [_, _]) H)).leK (8000 + 16000 * q) (by omega)
  intro a S
  exact ⟨acc, q, _, eb', D', E', owT, S.only ⟨rfl, rfl, rfl, trivial⟩, hst1, hoT, hT.trans (by rw [tagsP, if_pos (by decide)])⟩
 obtain ⟨gf, gn', rfl, hf1, hf2⟩ := id hflt
 refine pM 5 rfl (pL (pT (pS (pS (pG (pM 1 rfl (pP (p_ifnilN mi51 rfl rfl) rfl (pL (pT (zt (pS (pG (pM 1 rfl ?_)))))))))))))
 have hcon := dec.hn.faultS _ _ _ _ _ _ _ _ _ _ _ _ _ _ hst _ _ hW hflt
 refine pC Tryz.func24 hcon ?_
 rintro e w ⟨eb', D', E', L', rfl, hst', hr'⟩
 refine ⟨_, rfl, ?_⟩
 clear H hcon
 obtain ⟨G', rfl, _, _⟩ := id hr'
 have hst := hst'
 have hH := hst.H
 rw [← List.append_assoc G' G] at hH
 have H := HH.outB (BL := [_]) hH
 replace H := HH.dropG (BL := [_]) H
 refine pP (p_bld (ps := [(5, .tmp 22)]) rfl (bld40_5 _ _ _ _)) rfl (pF [.string ⟨#[]⟩, .slice none 0 0, .slice none 0 0, .string ⟨#[]⟩, .bool false, .bool true, .int .i64 fx.1, .int .i64 fx.2, .bool false, .int .i64 0] H rfl rfl sz40 .here ?_);clear H;intro w H
 refine pL (pT (pZ (pU ?_)))
 have hR : entP (X.drop p) line = ⟨⟨[], [], [], [], false, some fx, 0⟩, none, (nameP (X.drop p) line).p, (nameP (X.drop p) line).sec, (nameP (X.drop p) line).line⟩ := by unfold entP; simp [hnN, -List.length_drop]
 intro a S
 rw [hR]
 exact r_retc1 S rfl rfl (lva (cs := [.string ⟨#[]⟩, .slice none 0 0, .slice none 0 0, .string ⟨#[]⟩, .bool false, .bool true, .int .i64 fx.1, .int .i64 fx.2, .bool false, .int .i64 0]) ag40 sz40 rfl H m0) ⟨_, _, eb', D', E', [], [], rfl, own_nil' _ _, own_nil' _ _, (hst.to H.tail).leK _ (by omega)⟩
end ho
end Go.Proofs.YtbahngfpadjbhaaGreatDoor.dec
end
section
namespace Go.Proofs.YtbahngfpadjbhaaGreatDoor.dt
open Go.RowKit Go.Proofs.HHW Go.Proofs.YtbahngfpadjbhaaGreatDoorW.PrintWords Go.Proofs.YtbahngfpadjbhaaGreatDoor.dc
theorem tk_zero {sp : Nat → Bool} {h : Nat → Nat} : ∀ {l : List Int}, (tk sp h l).2 = 0 → (tk sp h l).1 = []
 | [], _ => rfl
 | [c], e => by
  rw [tk_1] at e ⊢
  (repeat' split at e) <;> first | (cases e; done) | skip
  rename_i h1 h2
  rw [if_neg h1, if_neg h2]
 | c :: d :: l, e => by
  rw [tk_2] at e ⊢
  (repeat' split at e) <;> first | (exact absurd e (Nat.succ_ne_zero _)) | skip
  rename_i h1 h2
  rw [if_neg h1, if_neg h2]
theorem tk_pos {k s : Nat} {X : List Int} {p : Nat} (h : tkT k s X p ≠ []) : p + 1 ≤ tkQ k s X p := by
 have h1 : (tk (sIn s) (tabH (ints (escS k))) (X.drop p)).2 ≠ 0 := fun e => h (tk_zero e)
 unfold tkQ
 omega
theorem name_far (X : List Int) (line : Nat) : (nameP X line).line = line ∧ ((nameP X line).f = none ∧ 1 ≤ (nameP X line).p ∧ (nameP X line).sec = 1 ∨ (nameP X line).f ≠ none ∧ (nameP X line).sec = 4) := by
 refine ⟨name_line X line, ?_⟩
 unfold nameP
 by_cases h1 : val (tkT 0 5 X 0) = false
 ·
  rw [if_pos h1]; exact .inr ⟨nofun, rfl⟩
 rw [if_neg h1]
 by_cases h2 : tkT 0 5 X 0 = []
 ·
  rw [if_pos h2]; exact .inr ⟨nofun, rfl⟩
 rw [if_neg h2]
 by_cases h3 : (tkT 0 5 X 0).getD 0 0 = 35
 ·
  rw [if_pos h3]; exact .inr ⟨nofun, rfl⟩
 rw [if_neg h3]
 by_cases h4 : (comma X (tkQ 0 5 X 0)).2 = true
 ·
  rw [if_pos h4]; exact .inr ⟨nofun, rfl⟩
 rw [if_neg h4]
 have := tk_pos h2
 have := comma_ge X (tkQ 0 5 X 0)
 exact .inl ⟨rfl, (by omega : 1 ≤ (comma X (tkQ 0 5 X 0)).1), rfl⟩
theorem tag_mono (X : List Int) (p line : Nat) : p ≤ (tagP X p line).p ∧ ((tagP X p line).f ≠ none → (tagP X p line).sec = 4) := by
 have g0 := run_ge 0 X p
 have q1 : p ≤ tkQ 1 2 X p := by unfold tkQ; omega
 have q2 : tkQ 1 2 X p + 1 ≤ tkQ 2 6 X (tkQ 1 2 X p + 1) := by unfold tkQ; omega
 have c2 := comma_ge X (tkQ 2 6 X (tkQ 1 2 X p + 1))
 unfold tagP
 (repeat' split) <;> refine ⟨?_, ?_⟩ <;> first | (intro h; exact rfl) | (intro h; exact absurd rfl h) | (simp only; omega)
theorem behind_far' {X key raw : List Int} {kind : Int} {q line : Nat} : (behindP X key kind raw q line).f ≠ none → (behindP X key kind raw q line).sec = 4 := by
 unfold behindP
 (repeat' split) <;> first | (intro h; exact rfl) | (intro h; exact absurd rfl h)
theorem field_sec (X : List Int) (p line : Nat) : (fieldQ X p line).f ≠ none → (fieldQ X p line).sec = 4 := by
 unfold fieldQ fieldP
 (repeat' split) <;> first | (intro h; exact rfl) | exact behind_far'
theorem time_far {X : List Int} {p line : Nat} (hp : p ≤ X.length) : p ≤ (timeP X p line).p ∧ (timeP X p line).line + p ≤ line + (timeP X p line).p ∧ ((timeP X p line).sec = 5 ∨ (timeP X p line).sec = 4) := by
 have g10 := run_ge 10 X p
 have l10 := run_le (k := 10) hp
 have g0 := run_ge 0 X (run 10 X p)
 have l0 := run_le (k := 0) l10
 have g12 := run_ge 12 X (run 10 X p)
 have g12' := run_ge 12 X (run 0 X (run 10 X p))
 have el := eol_le l0
 unfold timeP
 (repeat' split) <;> refine ⟨?_, ?_, ?_⟩ <;> first | exact .inl rfl | exact .inr rfl | (simp only; omega)
theorem tags_far (X : List Int) : ∀ (f : Nat) (acc : List (List Int × List Int)) (p : Nat) (sec : Int) (line : Nat), p ≤ (tagsP X f acc p sec line).p ∧ (tagsP X f acc p sec line).line = line ∧ ((tagsP X f acc p sec line).f ≠ none → (tagsP X f acc p sec line).sec = 4) := by
 intro f
 induction f with
 | zero => intro acc p sec line; exact ⟨Nat.le_refl _, rfl, fun h => absurd rfl h⟩
 | succ f ih =>
  intro acc p sec line
  have hm := tag_mono X p line
  have hl := tag_line X p line
  rw [tagsP]
  split
  ·
   exact ⟨Nat.le_refl _, rfl, fun h => absurd rfl h⟩
  ·
   split
   ·
    rename_i x hx; exact ⟨hm.1, hl, fun _ => hm.2 (by rw [hx]; exact nofun)⟩
   ·
    split
    ·
     exact ⟨hm.1, hl, fun h => absurd rfl h⟩
    ·
     rename_i kv hkv
     obtain ⟨h1, h2, h3⟩ := ih (acc ++ [kv]) (tagP X p line).p (tagP X p line).sec (tagP X p line).line
     exact ⟨Nat.le_trans hm.1 h1, h2.trans hl, h3⟩
theorem fields_far (X : List Int) : ∀ (f : Nat) (acc : List (List Int × Int × List Int)) (p : Nat) (sec : Int) (line : Nat), p ≤ X.length → (∀ q ln, q ≤ X.length → (fieldQ X q ln).p ≤ X.length) → p ≤ (fieldsP X f acc p sec line).p ∧ (fieldsP X f acc p sec line).p ≤ X.length ∧ (fieldsP X f acc p sec line).line + p ≤ line + (fieldsP X f acc p sec line).p ∧ ((fieldsP X f acc p sec line).f ≠ none → (fieldsP X f acc p sec line).sec = 4) := by
 intro f
 induction f with
 | zero => intro acc p sec line hp hX; exact ⟨Nat.le_refl _, hp, Nat.le_refl _, fun h => absurd rfl h⟩
 | succ f ih =>
  intro acc p sec line hp hX
  have hm := field_far (line := line) hp
  have hs := field_sec X p line
  have hle := hX p line hp
  rw [fieldsP]
  split
  ·
   exact ⟨Nat.le_refl _, hp, Nat.le_refl _, fun h => absurd rfl h⟩
  ·
   split
   ·
    rename_i x hx; exact ⟨hm.1, hle, hm.2.1, fun _ => hs (by rw [hx]; exact nofun)⟩
   ·
    split
    ·
     exact ⟨hm.1, hle, hm.2.1, fun h => absurd rfl h⟩
    ·
     rename_i kv hkv
     obtain ⟨h1, h2, h3, h4⟩ := ih (acc ++ [kv]) (fieldQ X p line).p (fieldQ X p line).sec (fieldQ X p line).line hle hX
     have := hm.1
     have := hm.2.1
     exact ⟨by omega, h2, by omega, h4⟩
theorem behind_le {X key raw : List Int} {kind : Int} {q line : Nat} (hq : q ≤ X.length) : (behindP X key kind raw q line).p ≤ X.length := by
 have h2 := run_le (k := 0) hq
 have h3 := eol_le h2
 unfold behindP
 (repeat' split) <;> simp only <;> omega
theorem comma_le {X : List Int} {p : Nat} (h : p ≤ X.length) : (comma X p).1 ≤ X.length := by
 unfold comma
 split
 ·
  rename_i h'; exact (by omega : p + 1 ≤ X.length)
 ·
  exact h
theorem name_le (X : List Int) (line : Nat) : (nameP X line).p ≤ X.length := by
 have q := (tkQ_le (k := 0) (s := 5) (X := X) (p := 0) (Nat.zero_le _)).2
 have c := comma_le q
 unfold nameP
 (repeat' split) <;> simp only <;> assumption
theorem tag_le {X : List Int} {p line : Nat} (hp : p ≤ X.length) : (tagP X p line).p ≤ X.length := by
 have g0 := run_le (k := 0) hp
 have q1 := (tkQ_le (k := 1) (s := 2) hp).2
 unfold tagP
 by_cases h1 : p < X.length ∧ X.getD p 0 = 32
 ·
  rw [if_pos h1]; exact g0
 rw [if_neg h1]
 by_cases h2 : val (tkT 1 2 X p) = false
 ·
  rw [if_pos h2]; exact q1
 rw [if_neg h2]
 by_cases h3 : tkT 1 2 X p = [] ∨ X.length ≤ tkQ 1 2 X p ∨ X.getD (tkQ 1 2 X p) 0 ≠ 61
 ·
  rw [if_pos h3]; exact q1
 rw [if_neg h3]
 have hlt : tkQ 1 2 X p + 1 ≤ X.length := by
  rcases Nat.lt_or_ge (tkQ 1 2 X p) X.length with h' | h'
  ·
   exact h'
  ·
   exact absurd (.inr (.inl h')) h3
 have q2 := (tkQ_le (k := 2) (s := 6) hlt).2
 have c2 := comma_le q2
 (repeat' split) <;> assumption
theorem tags_le (X : List Int) : ∀ (f : Nat) (acc : List (List Int × List Int)) (p : Nat) (sec : Int) (line : Nat), p ≤ X.length → (tagsP X f acc p sec line).p ≤ X.length := by
 intro f
 induction f with
 | zero => intro acc p sec line h; exact h
 | succ f ih =>
  intro acc p sec line h
  rw [tagsP]
  split
  ·
   exact h
  ·
   split
   ·
    exact tag_le h
   ·
    split
    ·
     exact tag_le h
    ·
     exact ih _ _ _ _ (tag_le h)
theorem field_le {X : List Int} {p line : Nat} (hp : p ≤ X.length) : (fieldQ X p line).p ≤ X.length := by
 have q1 := (tkQ_le (k := 3) (s := 7) hp).2
 unfold fieldQ fieldP
 by_cases h1 : val (tkT 3 7 X p) = false
 ·
  rw [if_pos h1]; exact q1
 rw [if_neg h1]
 by_cases h2 : tkT 3 7 X p = []
 ·
  rw [if_pos h2]; exact q1
 rw [if_neg h2]
 by_cases h3 : X.length ≤ tkQ 3 7 X p ∨ X.getD (tkQ 3 7 X p) 0 ≠ 61
 ·
  rw [if_pos h3]; exact q1
 rw [if_neg h3]
 have hlt : tkQ 3 7 X p + 1 ≤ X.length := by
  rcases Nat.lt_or_ge (tkQ 3 7 X p) X.length with h' | h'
  ·
   exact h'
  ·
   exact absurd (.inl h') h3
 by_cases h4 : X.length ≤ tkQ 3 7 X p + 1
 ·
  rw [if_pos h4]; exact hlt
 rw [if_neg h4]
 by_cases h5 : X.getD (tkQ 3 7 X p + 1) 0 = 34
 ·
  rw [if_pos h5]
  have q2 := (tkQ_le (k := 4) (s := 8) (p := tkQ 3 7 X p + 2) (by omega : tkQ 3 7 X p + 2 ≤ X.length)).2
  by_cases h6 : val (tkT 4 8 X (tkQ 3 7 X p + 2)) = false
  ·
   rw [if_pos h6]; exact q2
  rw [if_neg h6]
  by_cases h7 : X.length ≤ tkQ 4 8 X (tkQ 3 7 X p + 2)
  ·
   rw [if_pos h7]; exact q2
  rw [if_neg h7]
  exact behind_le (by omega)
 rw [if_neg h5]
 have g2 := run_le (k := 9) (X := X) (p := tkQ 3 7 X p + 1) (by omega)
 split
 ·
  exact behind_le g2
 ·
  split
  ·
   exact behind_le g2
  ·
   exact hlt
theorem time_le {X : List Int} {p line : Nat} (hp : p ≤ X.length) : (timeP X p line).p ≤ X.length := by
 have l10 := run_le (k := 10) hp
 have l0 := run_le (k := 0) l10
 have l12 := run_le (k := 12) l10
 have l12' := run_le (k := 12) l0
 have el := (eol_le l0).1
 unfold timeP
 (repeat' split) <;> assumption
theorem ent_far (Y : List Int) (line : Nat) : (entP Y line).p ≤ Y.length ∧ (entP Y line).line ≤ line + (entP Y line).p ∧ ((entP Y line).sec = 5 ∧ 1 ≤ (entP Y line).p ∨ (entP Y line).sec = 4) := by
 obtain ⟨n1, n2⟩ := name_far Y line
 have n3 := name_le Y line
 unfold entP
 simp only
 by_cases h1 : (nameP Y line).f ≠ none
 ·
  rw [if_pos h1]
  rcases n2 with ⟨h, _⟩ | ⟨_, h⟩
  ·
   exact absurd h h1
  ·
   exact ⟨n3, by simp only; omega, .inr h⟩
 rw [if_neg h1]
 have n4 : 1 ≤ (nameP Y line).p := by
  rcases n2 with ⟨_, h, _⟩ | ⟨h, _⟩
  ·
   exact h
  ·
   exact absurd h h1
 obtain ⟨t1, t2, t3⟩ := tags_far Y (Y.length + 2) [] (nameP Y line).p (nameP Y line).sec (nameP Y line).line
 have t4 := tags_le Y (Y.length + 2) [] (nameP Y line).p (nameP Y line).sec (nameP Y line).line n3
 by_cases h2 : (tagsP Y (Y.length + 2) [] (nameP Y line).p (nameP Y line).sec (nameP Y line).line).f ≠ none
 ·
  rw [if_pos h2]; exact ⟨t4, by simp only; omega, .inr (t3 h2)⟩
 rw [if_neg h2]
 obtain ⟨d1, d2, d3, d4⟩ := fields_far Y (Y.length + 2) [] (tagsP Y (Y.length + 2) [] (nameP Y line).p (nameP Y line).sec (nameP Y line).line).p (tagsP Y (Y.length + 2) [] (nameP Y line).p (nameP Y line).sec (nameP Y line).line).sec (tagsP Y (Y.length + 2) [] (nameP Y line).p (nameP Y line).sec (nameP Y line).line).line t4 (fun q ln h => field_le h)
 generalize hT : tagsP Y (Y.length + 2) [] (nameP Y line).p (nameP Y line).sec (nameP Y line).line = T at *
 generalize hD : fieldsP Y (Y.length + 2) [] T.p T.sec T.line = D at *
 by_cases h3 : D.f ≠ none
 ·
  rw [if_pos h3]; exact ⟨d2, by simp only; omega, .inr (d4 h3)⟩
 rw [if_neg h3]
 by_cases h4 : D.sec = 5
 ·
  rw [if_pos h4]; exact ⟨d2, by simp only; omega, .inl ⟨rfl, by simp only; omega⟩⟩
 rw [if_neg h4]
 obtain ⟨m1, m2, m3⟩ := time_far (line := D.line) d2
 have m4 := time_le (line := D.line) d2
 generalize hM : timeP Y D.p D.line = M at *
 split
 ·
  exact ⟨m4, by simp only; omega, m3.imp (fun h => ⟨h, by simp only; omega⟩) id⟩
 ·
  exact ⟨m4, by simp only; omega, m3.imp (fun h => ⟨h, by simp only; omega⟩) id⟩
theorem skip_far {X : List Int} : ∀ (f p line : Nat), p ≤ X.length → p ≤ (skipP X f p line).1 ∧ (skipP X f p line).1 ≤ X.length ∧ (skipP X f p line).2 + p ≤ line + (skipP X f p line).1 := by
 intro f
 induction f with
 | zero => intro p line hp; exact ⟨Nat.le_refl _, hp, Nat.le_refl _⟩
 | succ f ih =>
  intro p line hp
  have g0 := run_ge 0 X p
  have l0 := run_le (k := 0) hp
  have g11 := run_ge 11 X (run 0 X p)
  have l11 := run_le (k := 11) l0
  have e1 := eol_le l0
  have e2 := eol_le l11
  rw [skipP]
  split
  ·
   exact ⟨g0, l0, by simp only; omega⟩
  split
  ·
   split
   ·
    obtain ⟨a, b, c⟩ := ih (run 11 X (run 0 X p) + (eol X (run 11 X (run 0 X p))).2.1) (line + (eol X (run 11 X (run 0 X p))).2.2) e2.1
    exact ⟨by omega, b, by omega⟩
   ·
    exact ⟨Nat.le_refl _, hp, Nat.le_refl _⟩
  split
  ·
   split
   ·
    obtain ⟨a, b, c⟩ := ih (run 0 X p + (eol X (run 0 X p)).2.1) (line + (eol X (run 0 X p)).2.2) e1.1
    exact ⟨by omega, b, by omega⟩
   ·
    exact ⟨g0, l0, by simp only; omega⟩
  ·
   exact ⟨g0, l0, by simp only; omega⟩
theorem rest_far (X : List Int) (p line : Nat) : (restP X p line).1.length ≤ X.length - p - 1 ∧ (restP X p line).2 + (restP X p line).1.length ≤ line + (X.length - p) := by
 have g := run_ge 13 X p
 unfold restP
 split
 ·
  simp only [List.length_drop]; omega
 ·
  simp only [List.length_drop]; omega
def nextP (X : List Int) (p line : Nat) (sec : Int) : List Int × Nat :=
 if sec = 5 then (X.drop (skipP X (X.length - p + 1) p line).1, (skipP X (X.length - p + 1) p line).2)
 else ((restP X p line).1.drop (skipP (restP X p line).1 ((restP X p line).1.length - 0 + 1) 0 (restP X p line).2).1, (skipP (restP X p line).1 ((restP X p line).1.length - 0 + 1) 0 (restP X p line).2).2)
def ents : Nat → List Int → Nat → Nat → Int → List Ent
 | 0, _, _, _, _ => []
 | f + 1, X, p, line, sec => if (nextP X p line sec).1 = [] then [] else
  (entP (nextP X p line sec).1 (nextP X p line sec).2).r :: ents f (nextP X p line sec).1 (entP (nextP X p line sec).1 (nextP X p line sec).2).p (entP (nextP X p line sec).1 (nextP X p line sec).2).line (entP (nextP X p line sec).1 (nextP X p line sec).2).sec
def all (X : List Int) : List Ent := ents (2 * X.length + 2) X 0 1 5
def msr (X : List Int) (p : Nat) (sec : Int) : Nat := 2 * (X.length - p) + (if sec = 5 then 1 else 0)
theorem next_far {X : List Int} {p line : Nat} {sec : Int} (hp : p ≤ X.length) (hs : sec = 5 ∨ sec = 4) : 2 * (nextP X p line sec).1.length ≤ msr X p sec ∧ (sec = 4 → (nextP X p line sec).1 ≠ [] → 2 * (nextP X p line sec).1.length + 2 ≤ msr X p sec) ∧ (nextP X p line sec).2 + (nextP X p line sec).1.length ≤ line + (X.length - p) := by
 unfold nextP msr
 rcases hs with rfl | rfl
 ·
  rw [if_pos rfl, if_pos rfl]
  have h := skip_far (X := X) (X.length - p + 1) p line hp
  simp only [List.length_drop]
  exact ⟨by omega, fun h => absurd h (by decide), by omega⟩
 ·
  rw [if_neg (by decide), if_neg (by decide)]
  have r := rest_far X p line
  have h := skip_far (X := (restP X p line).1) ((restP X p line).1.length - 0 + 1) 0 (restP X p line).2 (Nat.zero_le _)
  simp only [List.length_drop]
  refine ⟨by omega, fun _ hne => ?_, by omega⟩
  have := List.length_pos_iff.2 hne
  rw [List.length_drop] at this
  omega
theorem msr_lt {X : List Int} {p line : Nat} {sec : Int} (hp : p ≤ X.length) (hs : sec = 5 ∨ sec = 4) (hne : (nextP X p line sec).1 ≠ []) :
  msr (nextP X p line sec).1 (entP (nextP X p line sec).1 (nextP X p line sec).2).p (entP (nextP X p line sec).1 (nextP X p line sec).2).sec < msr X p sec := by
 obtain ⟨h1, h2, h3⟩ := next_far (line := line) hp hs
 obtain ⟨e1, e2, e3⟩ := ent_far (nextP X p line sec).1 (nextP X p line sec).2
 have hl := List.length_pos_iff.2 hne
 generalize (entP (nextP X p line sec).1 (nextP X p line sec).2).p = p' at *
 generalize (entP (nextP X p line sec).1 (nextP X p line sec).2).sec = s' at *
 generalize (nextP X p line sec).1 = Y at *
 rcases hs with rfl | rfl
 ·
  unfold msr at h1 ⊢
  rw [if_pos (rfl : (5 : Int) = 5)] at h1 ⊢
  rcases e3 with ⟨e4, e3⟩ | e4
  ·
   rw [if_pos e4]; omega
  ·
   rw [if_neg (by rw [e4]; decide)]; omega
 ·
  have h2 := h2 rfl hne
  unfold msr at h2 ⊢
  rw [if_neg (by decide : ¬ (4 : Int) = 5)] at h2 ⊢
  rcases e3 with ⟨e4, e3⟩ | e4
  ·
   rw [if_pos e4]; omega
  ·
   rw [if_neg (by rw [e4]; decide)]; omega
def Rw (L : Bk) (v : Value) (n : Nat) (xs : List Value) : Prop := ∃ A c, v = .slice A n c ∧ n ≤ c ∧ (n = 0 ∨ ∃ (g : Nat) (cs : Array Value) (te : TypeId) (f : Nat × Nat), A = some ⟨g, 0, none⟩ ∧ (g, Obj.cells cs te f) ∈ L ∧ ∀ (j : Nat) (u : Value), xs[j]? = some u → cs[j]? = some u)
theorem Rw.mono {L L' : Bk} {v : Value} {n : Nat} {xs : List Value} (h : Rw L v n xs) (hs : ∀ x ∈ L, x ∈ L') : Rw L' v n xs := by
 obtain ⟨A, c, h1, h2, h3⟩ := h
 exact ⟨A, c, h1, h2, h3.imp id fun ⟨g, cs, te, f, e1, e2, e3⟩ => ⟨g, cs, te, f, e1, hs _ e2, e3⟩⟩
theorem _root_.Go.Proofs.HHW.Own.rw_ {e : TypeId} {s : Nat} {v : Value} {n : Nat} {xs : List Value} {ow L : Bk} (h : Own e s v n xs ow) (hs : ∀ x ∈ ow, x ∈ L) : Rw L v n xs := by
 rcases h.2 with ⟨rfl, rfl, _⟩ | ⟨g, cs, c, f, rfl, hc, _, rfl, _, hr⟩
 ·
  exact ⟨none, 0, rfl, Nat.le_refl _, .inl rfl⟩
 ·
  exact ⟨_, c, rfl, hc, .inr ⟨g, cs, e, f, rfl, hs _ List.mem_cons_self, fun j u hj => by rw [hr j (List.getElem?_eq_some_iff.1 hj).1, hj]⟩⟩
def EntR (L : Bk) : List Ent → List Value → Prop
 | [], xs => xs = []
 | e :: es, xs => ∃ tv fv r, xs = entV e tv fv ++ r ∧ Rw L tv e.tags.length (tagV e.tags) ∧ Rw L fv e.fields.length (fieldV e.fields) ∧ EntR L es r
theorem EntR.mono {L L' : Bk} (hs : ∀ x ∈ L, x ∈ L') : ∀ {es : List Ent} {xs : List Value}, EntR L es xs → EntR L' es xs
 | [], _, h => h
 | _ :: _, _, ⟨tv, fv, r, h1, h2, h3, h4⟩ => ⟨tv, fv, r, h1, h2.mono hs, h3.mono hs, h4.mono hs⟩
theorem EntR.snoc {L : Bk} {e : Ent} {tv fv : Value} (h2 : Rw L tv e.tags.length (tagV e.tags)) (h3 : Rw L fv e.fields.length (fieldV e.fields)) : ∀ {es : List Ent} {xs : List Value}, EntR L es xs → EntR L (es ++ [e]) (xs ++ entV e tv fv)
 | [], _, h => ⟨tv, fv, [], by rw [show _ = [] from h]; simp, h2, h3, rfl⟩
 | _ :: _, _, ⟨tv', fv', r, h1, h4, h5, h6⟩ => ⟨tv', fv', r ++ entV e tv fv, by rw [h1, List.append_assoc], h4, h5, EntR.snoc h2 h3 h6⟩
theorem EntR.at_ {L : Bk} {e : Ent} : ∀ {es : List Ent} {xs : List Value} {j : Nat}, EntR L es xs → es[j]? = some e → ∃ tv fv, Rw L tv e.tags.length (tagV e.tags) ∧ Rw L fv e.fields.length (fieldV e.fields) ∧ ∀ (i : Nat) (v : Value), (entV e tv fv)[i]? = some v → xs[j * 10 + i]? = some v
 | [], _, _, _, h => by simp at h
 | _ :: _, _, 0, ⟨tv, fv, r, h1, h2, h3, h4⟩, h => by
  simp only [List.getElem?_cons_zero, Option.some.injEq] at h
  subst h h1
  exact ⟨tv, fv, h2, h3, fun i v hi => by rw [Nat.zero_mul, Nat.zero_add, List.getElem?_append_left (List.getElem?_eq_some_iff.1 hi).1, hi]⟩
 | _ :: _, _, j + 1, ⟨tv, fv, r, h1, h2, h3, h4⟩, h => by
  subst h1
  obtain ⟨tv', fv', e1, e2, e3⟩ := h4.at_ (j := j) (by simpa using h)
  refine ⟨tv', fv', e1, e2, fun i v hi => ?_⟩
  rw [List.getElem?_append_right (by simp [entV]; omega), show (j + 1) * 10 + i - (entV _ tv fv).length = j * 10 + i by simp [entV]; omega]
  exact e3 i v hi
theorem EntR.len {L : Bk} : ∀ {es : List Ent} {xs : List Value}, EntR L es xs → xs.length = es.length * 10
 | [], _, h => by rw [show _ = [] from h]; rfl
 | e :: es, _, ⟨tv, fv, r, h1, _, _, h6⟩ => by rw [h1, List.length_append, h6.len, List.length_cons]; simp [entV]; omega
def ER (L : Bk) (v : Value) (es : List Ent) : Prop := ∃ xs, Rw L v es.length xs ∧ EntR L es xs
theorem ER.mono {L L' : Bk} {v : Value} {es : List Ent} (h : ER L v es) (hs : ∀ x ∈ L, x ∈ L') : ER L' v es := by
 obtain ⟨xs, h1, h2⟩ := h
 exact ⟨xs, h1.mono hs, h2.mono hs⟩
section
variable {B : Nat} {wb w : World} {BL D E F T O Lp L0 : Bk}
theorem _root_.Go.Proofs.HHW.HH.rowsUp (H : HH B wb w (D ++ (E ++ (F ++ (T ++ (BL ++ (O ++ (Lp ++ L0)))))))) : HH B wb w (BL ++ (O ++ (D ++ (E ++ ((F ++ (T ++ Lp)) ++ L0))))) := by
 classical exact H.perm (List.perm_iff_count.2 fun a => by simp only [List.count_append]; omega)
theorem _root_.Go.Proofs.HHW.HH.rowsDown (H : HH B wb w (BL ++ (O ++ (D ++ (E ++ (Lp ++ L0)))))) : HH B wb w (D ++ (E ++ (BL ++ (O ++ (Lp ++ L0))))) := by
 classical exact H.perm (List.perm_iff_count.2 fun a => by simp only [List.count_append]; omega)
theorem _root_.Go.Proofs.HHW.HH.rowsLeft {x y : Nat × Obj} (H : HH B wb w (x :: y :: (D ++ (E ++ (O ++ (Lp ++ L0)))))) : HH B wb w ((O ++ Lp) ++ L0) := by
 rw [List.append_assoc]
 exact H.tail.tail.sub ((List.sublist_append_right _ _).trans (List.sublist_append_right _ _))
end
end Go.Proofs.YtbahngfpadjbhaaGreatDoor.dt
namespace Go.Proofs.HHW
open Go.RowKit YtbahngfpadjbhaaGreatDoorW.PrintLast
section
variable {P : Program} {ops : Array Oper} {Q : Exit → Act → World → Prop} {a : Act} {n : Nat} {ds : List Deferred} {F : List (Nat × Value)} {B : Nat} {w0 w : World} {L L2 : List (Nat × Obj)} {d : Nat} {dss : List Nat} {fuel : Nat} {l : Array Bool} {i : Nat} {oi : Oper}
theorem d_callN {K : World → Prop} {f : FuncId} {fn : Func} {xs : List Operand} {ts : Array TypeId} {vs : List Value} {R : Ending → World → Prop} (l' : Array Bool) (S : SL a n ds F) (hi : ops[i]? = some oi)
  (ho : oi.op = .call { callee := .value (.func f), args := xs.toArray, argTypes := ts }) (hx : evs F xs = some vs) (hf : P.funcs[f]? = some fn) (hname : (fn.name == "runtime.NumGoroutine") = false) (hb : fn.body.isSome = true)
  (hcall : Calls P f vs.toArray w R) (hw : Region.wanted oi (yielded ops a.tmps) = true) (hd : oi.dst = some d) (hn : Nat.blt d n = true)
  (hc : readyB .any ops l l' i = true) (hds : dss.contains i = false)
  (h : ∀ e w, R e w → ∃ v, e = .returned v ∧ K w ∧ ∀ a, SL a n ds ((d, v) :: F) → wpAnyLast P .any ops Q K dss fuel l' a w) : wpAnyLast P .any ops Q K dss (fuel + 1) l a w := by
 refine one_ l' hi hd hc (by simpa using hds) (fun K' hK => ?_)
 refine goes_ hf hname hb vs.toArray hw hd ho (by rw [List.map_toArray, S.agree.list hx]) (hcall.mono ?_)
 intro e w1 hr
 obtain ⟨v, he, H1, hk⟩ := h e w1 hr
 exact ⟨v, he, hK.out _ _ H1 (fun _ => hk _ (S.put hn v))⟩
theorem d_litR {t e : TypeId} {len : Nat} {ps : List (Nat × Operand)} {vs : List (Nat × Value)} {cells : Array Value} (l' : Array Bool) (S : SL a n ds F) (hs : L.Sublist L2) (H : HH B w0 w L2) (hi : ops[i]? = some oi) (ho : oi.op = .buildSlice t len ps.toArray) (hx : evp F ps = some vs)
  (hr : ∀ w : World, (Instr.buildSlice t len vs.toArray).run P w = .ok (.slice (some ⟨w.heap.size, 0, none⟩) len len) (w.alloc (.cells cells e (0, 0)))) (hw : Region.wanted oi (yielded ops a.tmps) = true) (hd : oi.dst = some d) (hn : Nat.blt d n = true)
  (hc : readyB .any ops l l' i = true) (hds : dss.contains i = false)
  (h : ∀ g w a, HH B w0 w ((g, .cells cells e (0, 0)) :: L2) → SL a n ds ((d, .slice (some ⟨g, 0, none⟩) len len) :: F) → wpAnyLast P .any ops Q (fun w => HH B w0 w L) dss fuel l' a w) : wpAnyLast P .any ops Q (fun w => HH B w0 w L) dss (fuel + 1) l a w := by
 refine d_new (v := fun g => .slice (some ⟨g, 0, none⟩) len len) l' S hs H hi (fun ρ A => ?_) hw hd hn hc hds h
 unfold execOp
 simp only [ho]
 refine run_v ?_
 have := A.parts hx
 rw [show (Array.map (fun x : Nat × Operand => (x.1, ρ x.2)) ps.toArray) = vs.toArray by rw [List.map_toArray, this]]
 exact hr w
theorem d_ownN {K : World → Prop} (Lp : List (Nat × Obj)) {ow : List (Nat × Obj)} {x y : Operand} {t tx e : TypeId} {z : Value} {s bytes : Nat} {v u : Value} {m k : Nat} {xs news : List Value} (l' : Array Bool)
  (S : SL a n ds F) (H : HH B w0 w (Lp ++ (ow ++ L))) (hi : ops[i]? = some oi) (ho : oi.op = .call { callee := .builtin .append, args := #[x, y], argTypes := #[t, tx] }) (hx : ev F x = some v) (hy : ev F y = some u) (hown : Own e s v m xs ow) (hsrc : Src P s tx u k news w)
  (ht : P.underlying t = some (.slice e)) (hinfo : (P.info? e).map (fun i => (i.zero, i.size, i.bytes)) = some (some z, s, bytes)) (hzs : z.cells.size = s) (hb : (m + k) * bytes ≤ 140737488355328) (hb0 : 0 < bytes) (hw : Region.wanted oi (yielded ops a.tmps) = true) (hd : oi.dst = some d) (hn : Nat.blt d n = true)
  (hc : readyB .any ops l l' i = true) (hds : dss.contains i = true)
  (h : ∀ v' ow' w a, Own e s v' (m + k) (xs ++ news) ow' → HH B w0 w (Lp ++ (ow' ++ L)) → SL a n ds ((d, v') :: F) → wpAnyLast P .any ops Q K dss fuel l' a w) : wpAnyLast P .any ops Q K dss (fuel + 1) l a w := by
 obtain ⟨v', ow', w', h1, h2, h3⟩ := run_own (P := P) (ty := oi.type) H hown hsrc ht hinfo hzs hb hb0
 refine last_ l' hi hd hc (by simpa using hds) (fun K hK => value_ (v := v') (w1 := w') hw hd ?_ (hK.out _ _ (h v' ow' w' _ h2 h3 (S.put hn _))))
 have e1 := S.agree x _ hx
 have e2 := S.agree y _ hy
 unfold execOp
 simp only [ho, resolve]
 rw [show Array.map a.eval #[x, y] = #[v, u] by simp [e1, e2]]
 have hinv : ∀ c0, (invoke (Target.builtin .append #[t, tx] oi.type c0) #[v, u]).run P w = .ok (.value v') w' := fun _ => run_v h1
 exact hinv #[]
end
end Go.Proofs.HHW
end
