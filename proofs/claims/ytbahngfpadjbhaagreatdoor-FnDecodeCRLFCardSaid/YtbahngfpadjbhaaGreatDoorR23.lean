/- Part of the proof that FnDecodeCRLF answers true at every text, in every world that its card's statement admits; no condition beyond those. -/
import Derived.Test.YtbahngfpadjbhaaGreatDoorR22
import Derived.Test.YtbahngfpadjbhaaGreatDoorR05
import Derived.Test.YtbahngfpadjbhaaGreatDoorR04
set_option linter.unusedVariables false
set_option linter.unusedSimpArgs false
section
namespace Go.Proofs.YtbahngfpadjbhaaGreatDoor.dec
open Go.Proofs.YtbahngfpadjbhaaGreatDoor.fx
open Go.RowKit Go.Proofs.HHW Go.Proofs.YtbahngfpadjbhaaGreatDoorW.PrintWords Go.Proofs.YtbahngfpadjbhaaGreatDoor.dt
namespace jf
theorem fa71_0 (w : World) (g o : Nat) : (Instr.fieldAt 71 (.pointer (some ⟨g, o, none⟩)) 0).run Tryz.prog w = .ok (.pointer (some ⟨g, o + 0, none⟩)) w := by kernel_rfl
theorem fa71_1 (w : World) (g o : Nat) : (Instr.fieldAt 71 (.pointer (some ⟨g, o, none⟩)) 1).run Tryz.prog w = .ok (.pointer (some ⟨g, o + 1, none⟩)) w := by kernel_rfl
theorem fa71_2 (w : World) (g o : Nat) : (Instr.fieldAt 71 (.pointer (some ⟨g, o, none⟩)) 2).run Tryz.prog w = .ok (.pointer (some ⟨g, o + 2, none⟩)) w := by kernel_rfl
theorem bld71_  : Tryz.prog.built 71 [] = some #[.string ⟨#[]⟩, .int .i64 0, .string ⟨#[]⟩] := by kernel_rfl
set_option maxHeartbeats 2000000 in
theorem field3 (wb w0 : World) (g : Nat) (s : ByteArray) (q : Nat) (fr : Nat) (L0 : dc.Bk) (hs : s.size ≤ 100000) (hq : q ≤ s.size) (hfr : fr ≤ 100000) (H : HH wb.heap.size wb w0 ((g, Obj.cells #[.string s, .int .i64 ((q : Nat) : Int), .int .i64 3, .int .i64 ((fr : Nat) : Int)] 73 (0, 0)) :: L0)) : Calls Tryz.prog 34 #[.pointer (some ⟨g, 0, none⟩)] w0 fun e w' => ∃ (a : ByteArray) (kd : Int) (b : ByteArray) (l k : Int), e = .returned (.tuple #[.agg #[.string a, .int .i64 kd, .string b], .bool false, .agg #[.bool false, .int .i64 l, .int .i64 k, .bool false]]) ∧ HH wb.heap.size wb w' ((g, Obj.cells #[.string s, .int .i64 ((q : Nat) : Int), .int .i64 3, .int .i64 ((fr : Nat) : Int)] 73 (0, 0)) :: L0) := by
 refine c_enter (args := [.pointer (some ⟨g, 0, none⟩)]) (k := 264) Tryz.func34 rfl rfl rfl ?_
 refine pS (pG ?_);intro a S
 refine l_alloc (cs := #[.string ⟨#[]⟩, .int .i64 0, .string ⟨#[]⟩]) S H rfl (fun w => al zv71) rfl rfl rfl ?_; clear S a H; intro gd w a H S
 revert a;refine pM 1 rfl ?_;intro a S
 refine l_alloc (cs := #[.bool false, .int .i64 0, .int .i64 0, .bool false]) S H rfl (fun w => al zv38) rfl rfl rfl ?_; clear S a H; intro gf w a H S
 revert a;refine pL (pT (pS (pS (pG (pM 1 rfl ?_)))))
 replace H := HH.pull2 H
 have hcon := dec.jc.skip_ _ _ _ _ _ _ _ _ hs (2) (by first | omega | decide) H
 refine pC Tryz.func28 hcon ?_
 rintro e w ⟨rfl, hH⟩
 refine ⟨_, rfl, ?_⟩
 clear H hcon; have H := hH; clear hH
 refine pF [.bool false, .int .i64 0, .int .i64 0, .bool false] H rfl rfl sz38 (.there .here) ?_;clear H;intro w H
 refine pL (pT (pS (pG (pA fa38_0 rfl rfl rfl (pD H rfl rfl m1 rfl ag4 rfl (pM 1 rfl (pN rfl (pP (p_move rfl) rfl (pN rfl (pP (p_nilCheck rfl) rfl (pN rfl (pA fa73_2 rfl rfl rfl (pN rfl (pD H rfl rfl m0 rfl ag3 rfl (pN rfl (pP (p_neq rfl rfl) rfl (pP (p_pick_f rfl rfl rfl) rfl (pL (pT (zt (pS ?_)))))))))))))))))))));intro a S
 refine d_start (id := 3) [4] 5 (bA 5 0) H rfl rfl rfl (fun w H => ?_)
 revert a;refine qR 0 H rfl (r_loadn (m := 3) (vs := [.string ⟨#[]⟩, .int .i64 0, .string ⟨#[]⟩]) rfl m2 ag71 sz71 rfl rfl) rfl (qR 1 H rfl (r_loadn (m := 4) (vs := [.bool false, .int .i64 0, .int .i64 0, .bool false]) rfl m1 ag38 sz38 rfl rfl) rfl ?_);intro a S
 refine d_storeAllN (i := 2) (vs := [.string ⟨#[]⟩, .int .i64 0, .string ⟨#[]⟩]) (bA 5 7) S H rfl rfl rfl rfl sz71 (.there (.there .here)) rfl (fun v hv => by simp only [List.mem_cons, List.not_mem_nil, or_false] at hv; rcases hv with rfl | rfl | rfl <;> rfl) (fun _ H => H) (wanted_none rfl) rfl (by kernel_rfl) rfl ?_; clear S a H; intro w a H S
 revert a;refine qM [3] rfl ?_;intro a S
 refine d_storeAll (i := 4) (vs := [.bool false, .int .i64 0, .int .i64 0, .bool false]) (bA 5 31) S H rfl rfl rfl rfl sz38 (.there .here) rfl (fun v hv => by simp only [List.mem_cons, List.not_mem_nil, or_false] at hv; rcases hv with rfl | rfl | rfl | rfl <;> rfl) (wanted_none rfl) rfl (by kernel_rfl) rfl ?_; clear S a H; intro w a H S
 revert a;refine qD (pT (pZ (pU ?_)));intro a S
 exact r_retctc S rfl rfl rfl rfl (lva (cs := [.string ⟨#[]⟩, .int .i64 0, .string ⟨#[]⟩]) ag71 sz71 rfl H m2) (lva (cs := [.bool false, .int .i64 0, .int .i64 0, .bool false]) ag38 sz38 rfl H m1) ⟨_, _, _, _, _, rfl, (H.sub (.cons_cons _ ((.cons _ (.cons _ (.refl _))))))⟩
set_option maxHeartbeats 2000000 in
theorem field5 (wb w0 : World) (g : Nat) (s : ByteArray) (q : Nat) (fr : Nat) (L0 : dc.Bk) (hs : s.size ≤ 100000) (hq : q ≤ s.size) (hfr : fr ≤ 100000) (H : HH wb.heap.size wb w0 ((g, Obj.cells #[.string s, .int .i64 ((q : Nat) : Int), .int .i64 5, .int .i64 ((fr : Nat) : Int)] 73 (0, 0)) :: L0)) : Calls Tryz.prog 34 #[.pointer (some ⟨g, 0, none⟩)] w0 fun e w' => ∃ (a : ByteArray) (kd : Int) (b : ByteArray) (l k : Int), e = .returned (.tuple #[.agg #[.string a, .int .i64 kd, .string b], .bool false, .agg #[.bool false, .int .i64 l, .int .i64 k, .bool false]]) ∧ HH wb.heap.size wb w' ((g, Obj.cells #[.string s, .int .i64 ((q : Nat) : Int), .int .i64 5, .int .i64 ((fr : Nat) : Int)] 73 (0, 0)) :: L0) := by
 refine c_enter (args := [.pointer (some ⟨g, 0, none⟩)]) (k := 264) Tryz.func34 rfl rfl rfl ?_
 refine pS (pG ?_);intro a S
 refine l_alloc (cs := #[.string ⟨#[]⟩, .int .i64 0, .string ⟨#[]⟩]) S H rfl (fun w => al zv71) rfl rfl rfl ?_; clear S a H; intro gd w a H S
 revert a;refine pM 1 rfl ?_;intro a S
 refine l_alloc (cs := #[.bool false, .int .i64 0, .int .i64 0, .bool false]) S H rfl (fun w => al zv38) rfl rfl rfl ?_; clear S a H; intro gf w a H S
 revert a;refine pL (pT (pS (pS (pG (pM 1 rfl ?_)))))
 replace H := HH.pull2 H
 have hcon := dec.jc.skip_ _ _ _ _ _ _ _ _ hs (2) (by first | omega | decide) H
 refine pC Tryz.func28 hcon ?_
 rintro e w ⟨rfl, hH⟩
 refine ⟨_, rfl, ?_⟩
 clear H hcon; have H := hH; clear hH
 refine pF [.bool false, .int .i64 0, .int .i64 0, .bool false] H rfl rfl sz38 (.there .here) ?_;clear H;intro w H
 refine pL (pT (pS (pG (pA fa38_0 rfl rfl rfl (pD H rfl rfl m1 rfl ag4 rfl (pM 1 rfl (pN rfl (pP (p_move rfl) rfl (pN rfl (pP (p_nilCheck rfl) rfl (pN rfl (pA fa73_2 rfl rfl rfl (pN rfl (pD H rfl rfl m0 rfl ag3 rfl (pN rfl (pP (p_neq rfl rfl) rfl (pP (p_pick_f rfl rfl rfl) rfl (pL (pT (zt (pS ?_)))))))))))))))))))));intro a S
 refine d_start (id := 3) [4] 5 (bA 5 0) H rfl rfl rfl (fun w H => ?_)
 revert a;refine qR 0 H rfl (r_loadn (m := 3) (vs := [.string ⟨#[]⟩, .int .i64 0, .string ⟨#[]⟩]) rfl m2 ag71 sz71 rfl rfl) rfl (qR 1 H rfl (r_loadn (m := 4) (vs := [.bool false, .int .i64 0, .int .i64 0, .bool false]) rfl m1 ag38 sz38 rfl rfl) rfl ?_);intro a S
 refine d_storeAllN (i := 2) (vs := [.string ⟨#[]⟩, .int .i64 0, .string ⟨#[]⟩]) (bA 5 7) S H rfl rfl rfl rfl sz71 (.there (.there .here)) rfl (fun v hv => by simp only [List.mem_cons, List.not_mem_nil, or_false] at hv; rcases hv with rfl | rfl | rfl <;> rfl) (fun _ H => H) (wanted_none rfl) rfl (by kernel_rfl) rfl ?_; clear S a H; intro w a H S
 revert a;refine qM [3] rfl ?_;intro a S
 refine d_storeAll (i := 4) (vs := [.bool false, .int .i64 0, .int .i64 0, .bool false]) (bA 5 31) S H rfl rfl rfl rfl sz38 (.there .here) rfl (fun v hv => by simp only [List.mem_cons, List.not_mem_nil, or_false] at hv; rcases hv with rfl | rfl | rfl | rfl <;> rfl) (wanted_none rfl) rfl (by kernel_rfl) rfl ?_; clear S a H; intro w a H S
 revert a;refine qD (pT (pZ (pU ?_)));intro a S
 exact r_retctc S rfl rfl rfl rfl (lva (cs := [.string ⟨#[]⟩, .int .i64 0, .string ⟨#[]⟩]) ag71 sz71 rfl H m2) (lva (cs := [.bool false, .int .i64 0, .int .i64 0, .bool false]) ag38 sz38 rfl H m1) ⟨_, _, _, _, _, rfl, (H.sub (.cons_cons _ ((.cons _ (.cons _ (.refl _))))))⟩
set_option maxHeartbeats 2000000 in
theorem field2 (wb w0 : World) (g : Nat) (s : ByteArray) (q : Nat) (fr : Nat) (L0 : dc.Bk) (hs : s.size ≤ 100000) (hq : q ≤ s.size) (hfr : fr ≤ 100000) (H : HH wb.heap.size wb w0 ((g, Obj.cells #[.string s, .int .i64 ((q : Nat) : Int), .int .i64 2, .int .i64 ((fr : Nat) : Int)] 73 (0, 0)) :: L0)) : Calls Tryz.prog 34 #[.pointer (some ⟨g, 0, none⟩)] w0 fun e w' => ∃ (a : ByteArray) (kd : Int) (b : ByteArray) (l k : Int), e = .returned (.tuple #[.agg #[.string a, .int .i64 kd, .string b], .bool (fieldQ (ints s) q 0).r.isSome, .agg #[.bool (fieldQ (ints s) q 0).f.isSome, .int .i64 l, .int .i64 k, .bool false]]) ∧ HH wb.heap.size wb w' ((g, Obj.cells #[.string s, .int .i64 (((fieldQ (ints s) q 0).p : Nat) : Int), .int .i64 ((fieldQ (ints s) q 0).sec), .int .i64 ((fr : Nat) : Int)] 73 (0, 0)) :: L0) := by
 refine c_enter (args := [.pointer (some ⟨g, 0, none⟩)]) (k := 264) Tryz.func34 rfl rfl rfl ?_
 refine pS (pG ?_);intro a S
 refine l_alloc (cs := #[.string ⟨#[]⟩, .int .i64 0, .string ⟨#[]⟩]) S H rfl (fun w => al zv71) rfl rfl rfl ?_; clear S a H; intro gd w a H S
 revert a;refine pM 1 rfl ?_;intro a S
 refine l_alloc (cs := #[.bool false, .int .i64 0, .int .i64 0, .bool false]) S H rfl (fun w => al zv38) rfl rfl rfl ?_; clear S a H; intro gf w a H S
 revert a;refine pL (pT (pS (pS (pG (pM 1 rfl ?_)))))
 replace H := HH.pull2 H
 have hcon := dec.jc.skip_ _ _ _ _ _ _ _ _ hs (2) (by first | omega | decide) H
 refine pC Tryz.func28 hcon ?_
 rintro e w ⟨rfl, hH⟩
 refine ⟨_, rfl, ?_⟩
 clear H hcon; have H := hH; clear hH
 refine pF [.bool false, .int .i64 0, .int .i64 0, .bool false] H rfl rfl sz38 (.there .here) ?_;clear H;intro w H
 refine pL (pT (pS (pG (pA fa38_0 rfl rfl rfl (pD H rfl rfl m1 rfl ag4 rfl (pM 1 rfl (pN rfl (pP (p_move rfl) rfl (pN rfl (pP (p_nilCheck rfl) rfl (pN rfl (pA fa73_2 rfl rfl rfl (pN rfl (pD H rfl rfl m0 rfl ag3 rfl (pN rfl (pP (p_neq rfl rfl) rfl (pP (p_pick_f rfl rfl rfl) rfl (pL (pT (zf (pK (pT (pS (pG (pM 2 rfl (pA fa73_1 rfl rfl rfl (pD H rfl rfl m0 rfl ag3 rfl (pM 1 rfl (pL (pT (pS (pG (pM 1 rfl ?_)))))))))))))))))))))))))))))))))
 have hil := ints_len s
 have qt5 := tkQ_le (k := 3) (s := 7) (X := (ints s)) (p := q) (by omega)
 have hcon := dec.jc.token_ _ _ _ _ _ _ _ _ hs 3 (by decide) (by omega) (by omega) H
 rw [show sOf 3 = 7 from rfl] at hcon
 refine pC Tryz.func68 hcon ?_
 rintro e w (⟨vt5, rfl, hH⟩ | ⟨vt5, lt5, kt5, rfl, hH⟩)
 ·
  refine ⟨_, rfl, ?_⟩
  clear H hcon; have H := hH; clear hH
  refine pM 3 rfl (pA fa71_0 rfl rfl rfl (pE H rfl rfl rfl (.there (.there .here)) (by first | decide | simp [Value.cells]) sz9 ?_));clear H;intro w H
  refine pF [.bool false, .int .i64 0, .int .i64 0, .bool false] H rfl rfl sz38 (.there .here) ?_;clear H;intro w H
  refine pL (pT (pS (pS (pG (pA fa38_0 rfl rfl rfl (pD H rfl rfl m1 rfl ag4 rfl (pL (pT (zf (pK (pT (pS (pS (pG (pA fa71_0 rfl rfl rfl (pD H rfl rfl m2 rfl ag9 rfl (pP (p_seql rfl rfl) rfl ?_)))))))))))))))));intro a S
  rw [sE] at S
  revert a;refine pL (pT (zc rfl (fun bc9 => ?_) (fun bc9 => ?_)))
  ·
   have c9 := of_decide_eq_true bc9
   refine pS (pG (pP (p_bld (ps := []) rfl (bld71_)) rfl (pM 2 rfl ?_)))
   have hcon := dec.jc.fault_ _ _ _ _ _ _ _ _ hs (q) (by omega) (by omega) H
   refine pC Tryz.func69 hcon ?_
   rintro e w ⟨lf10, kf10, rfl, hH⟩
   refine ⟨_, rfl, ?_⟩
   clear H hcon; have H := hH; clear hH
   rw [show fsec 2 = 4 from rfl] at H
   refine pF [.string ⟨#[]⟩, .int .i64 0, .string ⟨#[]⟩] H rfl rfl sz71 (.there (.there .here)) ?_;clear H;intro w H
   refine pM 1 rfl (pF [.bool true, .int .i64 lf10, .int .i64 kf10, .bool false] H rfl rfl sz38 (.there .here) ?_);clear H;intro w H
   refine pL (pT (pZ (pU ?_)))
   have hil := ints_len s
   have hR : (fieldQ (ints s) q 0) = ⟨none, some (flt (ints s) q (tkQ 3 7 (ints s) q) 0), (tkQ 3 7 (ints s) q), 4, 0⟩ := (if_neg (tru_ne vt5)).trans ((if_pos (tk_empty.1 c9)))
   intro a S
   rw [hR]
   exact r_retctc S rfl rfl rfl rfl (lva (cs := [.string ⟨#[]⟩, .int .i64 0, .string ⟨#[]⟩]) ag71 sz71 rfl H m2) (lva (cs := [.bool true, .int .i64 lf10, .int .i64 kf10, .bool false]) ag38 sz38 rfl H m1) ⟨_, _, _, _, _, rfl, (H.sub (.cons_cons _ ((.cons _ (.cons _ (.refl _))))))⟩
  have c9 := of_decide_eq_false bc9
  refine pK (pT (pS (pS ?_)));intro a S
  refine d_start (id := 10) [] 14 (bA 14 0) H rfl rfl rfl (fun w H => ?_)
  revert a;refine qM [0] rfl ?_
  have hcon := dec.jb.done_ _ _ _ _ _ _ _ _ hs H
  intro a S
  refine d_call (i := 1) (bA 14 3) S rfl rfl rfl Tryz.func31 rfl rfl hcon (wanted_none rfl) rfl rfl (by kernel_rfl) rfl ?_
  rintro e w ⟨rfl, hH⟩
  refine ⟨_, rfl, hH, ?_⟩;clear S a
  clear H hcon; have H := hH; clear hH
  refine qM [2] rfl ?_;intro a S
  refine d_split (S.of 47 rfl) (fun bc13 => ?_) (fun bc13 => ?_)
  ·
   have c13 := of_decide_eq_true bc13
   revert a;refine qO 3 rfl bc13 rfl (qO 4 rfl bc13 rfl (qO 5 rfl bc13 rfl (qO 6 rfl bc13 rfl (qO 7 rfl bc13 rfl (qO 8 rfl bc13 rfl (qO 9 rfl bc13 rfl (qO 10 rfl bc13 rfl (qO 11 rfl bc13 rfl (qO 12 rfl bc13 rfl (qP 13 rfl (p_pick_t rfl bc13 rfl) rfl (qD (pT (zt (pS (pG (pP (p_bld (ps := []) rfl (bld71_)) rfl (pM 3 rfl (pA fa73_1 rfl rfl rfl (pD H rfl rfl m0 rfl ag3 rfl ?_)))))))))))))))))))
   have hcon := dec.jc.fault_ _ _ _ _ _ _ _ _ hs ((tkQ 3 7 (ints s) q)) (by omega) (by omega) H
   refine pC Tryz.func69 hcon ?_
   rintro e w ⟨lf16, kf16, rfl, hH⟩
   refine ⟨_, rfl, ?_⟩
   clear H hcon; have H := hH; clear hH
   rw [show fsec 2 = 4 from rfl] at H
   refine pF [.string ⟨#[]⟩, .int .i64 0, .string ⟨#[]⟩] H rfl rfl sz71 (.there (.there .here)) ?_;clear H;intro w H
   refine pM 1 rfl (pF [.bool true, .int .i64 lf16, .int .i64 kf16, .bool false] H rfl rfl sz38 (.there .here) ?_);clear H;intro w H
   refine pL (pT (pZ (pU ?_)))
   have hil := ints_len s
   have hR : (fieldQ (ints s) q 0) = ⟨none, some (flt (ints s) (tkQ 3 7 (ints s) q) (tkQ 3 7 (ints s) q) 0), (tkQ 3 7 (ints s) q), 4, 0⟩ := (if_neg (tru_ne vt5)).trans ((if_neg (fun h => c9 (tk_empty.2 h))).trans ((if_pos (.inl (by omega)))))
   intro a S
   rw [hR]
   exact r_retctc S rfl rfl rfl rfl (lva (cs := [.string ⟨#[]⟩, .int .i64 0, .string ⟨#[]⟩]) ag71 sz71 rfl H m2) (lva (cs := [.bool true, .int .i64 lf16, .int .i64 kf16, .bool false]) ag38 sz38 rfl H m1) ⟨_, _, _, _, _, rfl, (H.sub (.cons_cons _ ((.cons _ (.cons _ (.refl _))))))⟩
  have c13 := of_decide_eq_false bc13
  revert a;refine qW 3 rfl (p_move rfl) bc13 rfl (qW 4 rfl (p_nilCheck rfl) bc13 rfl (qX 5 fa73_0 rfl rfl rfl bc13 rfl (qF 6 H rfl rfl rfl m0 rfl ag9 bc13 rfl (qW 7 rfl (p_move rfl) bc13 rfl (qW 8 rfl (p_nilCheck rfl) bc13 rfl (qX 9 fa73_1 rfl rfl rfl bc13 rfl (qF 10 H rfl rfl rfl m0 rfl ag3 bc13 rfl (qW 11 rfl (p_index rfl rfl (fun w => ix_string Tryz.underlying9 (by omega) (by omega))) bc13 rfl ?_))))))))
  obtain ⟨b18, hb18, lb18, nb18, gb18⟩ := bt_natI s ((((tkQ 3 7 (ints s) q) : Nat) : Int)) ((tkQ 3 7 (ints s) q)) (by first | rfl | omega)
  intro a S
  rw [hb18] at S
  revert a;refine qW 12 rfl (p_neq rfl rfl) bc13 rfl (qP 13 rfl (p_pick_f rfl bc13 rfl) rfl (qD (pT (zc rfl (fun bc20 => ?_) (fun bc20 => ?_)))))
  ·
   have c20 := bne_iff_ne.1 bc20
   refine pS (pG (pP (p_bld (ps := []) rfl (bld71_)) rfl (pM 3 rfl (pA fa73_1 rfl rfl rfl (pD H rfl rfl m0 rfl ag3 rfl ?_)))))
   have hcon := dec.jc.fault_ _ _ _ _ _ _ _ _ hs ((tkQ 3 7 (ints s) q)) (by omega) (by omega) H
   refine pC Tryz.func69 hcon ?_
   rintro e w ⟨lf21, kf21, rfl, hH⟩
   refine ⟨_, rfl, ?_⟩
   clear H hcon; have H := hH; clear hH
   rw [show fsec 2 = 4 from rfl] at H
   refine pF [.string ⟨#[]⟩, .int .i64 0, .string ⟨#[]⟩] H rfl rfl sz71 (.there (.there .here)) ?_;clear H;intro w H
   refine pM 1 rfl (pF [.bool true, .int .i64 lf21, .int .i64 kf21, .bool false] H rfl rfl sz38 (.there .here) ?_);clear H;intro w H
   refine pL (pT (pZ (pU ?_)))
   have hil := ints_len s
   have hR : (fieldQ (ints s) q 0) = ⟨none, some (flt (ints s) (tkQ 3 7 (ints s) q) (tkQ 3 7 (ints s) q) 0), (tkQ 3 7 (ints s) q), 4, 0⟩ := (if_neg (tru_ne vt5)).trans ((if_neg (fun h => c9 (tk_empty.2 h))).trans ((if_pos (.inr (by omega)))))
   intro a S
   rw [hR]
   exact r_retctc S rfl rfl rfl rfl (lva (cs := [.string ⟨#[]⟩, .int .i64 0, .string ⟨#[]⟩]) ag71 sz71 rfl H m2) (lva (cs := [.bool true, .int .i64 lf21, .int .i64 kf21, .bool false]) ag38 sz38 rfl H m1) ⟨_, _, _, _, _, rfl, (H.sub (.cons_cons _ ((.cons _ (.cons _ (.refl _))))))⟩
  have c20 := bne_eq_false_iff_eq.1 bc20
  refine pK (pT (pS (pG (pM 2 rfl (pA fa73_1 rfl rfl rfl (pD H rfl rfl m0 rfl ag3 rfl (pP (p_add rfl rfl (nat_add (x := (tkQ 3 7 (ints s) q)) (y := 1) (by omega))) rfl (pM 1 rfl (pA fa73_1 rfl rfl rfl (pE H rfl rfl rfl .here (by first | decide | simp [Value.cells]) sz3 ?_))))))))));clear H;intro w H
  refine pL (pT (pS (pS (pG (pM 1 rfl ?_)))))
  have hcon := dec.jb.done_ _ _ _ _ _ _ _ _ hs H
  refine pC Tryz.func31 hcon ?_
  rintro e w ⟨rfl, hH⟩
  refine ⟨_, rfl, ?_⟩
  clear H hcon; have H := hH; clear hH
  refine pL (pT (zc rfl (fun bc24 => ?_) (fun bc24 => ?_)))
  ·
   have c24 := of_decide_eq_true bc24
   refine pS (pG (pP (p_bld (ps := []) rfl (bld71_)) rfl (pM 3 rfl (pA fa73_1 rfl rfl rfl (pD H rfl rfl m0 rfl ag3 rfl ?_)))))
   have hcon := dec.jc.fault_ _ _ _ _ _ _ _ _ hs (((tkQ 3 7 (ints s) q) + 1)) (by omega) (by omega) H
   refine pC Tryz.func69 hcon ?_
   rintro e w ⟨lf25, kf25, rfl, hH⟩
   refine ⟨_, rfl, ?_⟩
   clear H hcon; have H := hH; clear hH
   rw [show fsec 2 = 4 from rfl] at H
   refine pF [.string ⟨#[]⟩, .int .i64 0, .string ⟨#[]⟩] H rfl rfl sz71 (.there (.there .here)) ?_;clear H;intro w H
   refine pM 1 rfl (pF [.bool true, .int .i64 lf25, .int .i64 kf25, .bool false] H rfl rfl sz38 (.there .here) ?_);clear H;intro w H
   refine pL (pT (pZ (pU ?_)))
   have hil := ints_len s
   have hR : (fieldQ (ints s) q 0) = ⟨none, some (flt (ints s) ((tkQ 3 7 (ints s) q) + 1) ((tkQ 3 7 (ints s) q) + 1) 0), ((tkQ 3 7 (ints s) q) + 1), 4, 0⟩ := (if_neg (tru_ne vt5)).trans ((if_neg (fun h => c9 (tk_empty.2 h))).trans ((if_neg (fun h => by rcases h with h | h <;> omega)).trans ((if_pos (by omega)))))
   intro a S
   rw [hR]
   exact r_retctc S rfl rfl rfl rfl (lva (cs := [.string ⟨#[]⟩, .int .i64 0, .string ⟨#[]⟩]) ag71 sz71 rfl H m2) (lva (cs := [.bool true, .int .i64 lf25, .int .i64 kf25, .bool false]) ag38 sz38 rfl H m1) ⟨_, _, _, _, _, rfl, (H.sub (.cons_cons _ ((.cons _ (.cons _ (.refl _))))))⟩
  have c24 := of_decide_eq_false bc24
  refine pK (pT ?_);intro a S
  refine c_cut (fun a w => ∃ (kd : Int) (rb : ByteArray) (raw : List Int) (kdm : Int) (q' ln : Nat), SL a 265 [] [(0, .pointer (some ⟨g, 0, none⟩)), (2, .pointer (some ⟨gd, 0, none⟩)), (4, .pointer (some ⟨gf, 0, none⟩))] ∧ HH wb.heap.size wb w ((g, Obj.cells #[.string s, .int .i64 ((q' : Nat) : Int), .int .i64 2, .int .i64 ((fr : Nat) : Int)] 73 (0, 0)) :: (gf, Obj.cells #[.bool false, .int .i64 0, .int .i64 0, .bool false] 38 (0, 0)) :: (gd, Obj.cells #[.string (strOfNums (tkT 3 7 (ints s) q)), .int .i64 kd, .string rb] 71 (0, 0)) :: L0) ∧ q' ≤ s.size ∧ (fieldQ (ints s) q 0) = behindP (ints s) (tkT 3 7 (ints s) q) kdm raw q' ln) ?_ ?_
  ·
   clear S a H; rintro a w ⟨kd, rb, raw, kdm, q', ln, S, H, hq', hF⟩
   revert a;refine pS (pB (pS (pG (pM 1 rfl ?_))))
   have hcon := dec.jb.done_ _ _ _ _ _ _ _ _ hs H
   refine pC Tryz.func31 hcon ?_
   rintro e w ⟨rfl, hH⟩
   refine ⟨_, rfl, ?_⟩
   clear H hcon; have H := hH; clear hH
   refine pM 1 rfl (pL (pT (zc rfl (fun bc28 => ?_) (fun bc28 => ?_))))
   ·
    have c28 := of_decide_eq_true bc28
    refine pG (pM 2 rfl (pA fa73_2 rfl rfl rfl (pE H rfl rfl rfl .here (by first | decide | simp [Value.cells]) sz3 ?_)));clear H;intro w H
    refine pL (pI 2 (pT (pS ?_)));intro a S
    refine d_start (id := 49) [4] 5 (bA 5 0) H rfl rfl rfl (fun w H => ?_)
    revert a;refine qR 0 H rfl (r_loadn (m := 3) (vs := [.string (strOfNums (tkT 3 7 (ints s) q)), .int .i64 kd, .string rb]) rfl m2 ag71 sz71 rfl rfl) rfl (qR 1 H rfl (r_loadn (m := 4) (vs := [.bool false, .int .i64 0, .int .i64 0, .bool false]) rfl m1 ag38 sz38 rfl rfl) rfl ?_);intro a S
    refine d_storeAllN (i := 2) (vs := [.string (strOfNums (tkT 3 7 (ints s) q)), .int .i64 kd, .string rb]) (bA 5 7) S H rfl rfl rfl rfl sz71 (.there (.there .here)) rfl (fun v hv => by simp only [List.mem_cons, List.not_mem_nil, or_false] at hv; rcases hv with rfl | rfl | rfl <;> rfl) (fun _ H => H) (wanted_none rfl) rfl (by kernel_rfl) rfl ?_; clear S a H; intro w a H S
    revert a;refine qM [3] rfl ?_;intro a S
    refine d_storeAll (i := 4) (vs := [.bool false, .int .i64 0, .int .i64 0, .bool false]) (bA 5 31) S H rfl rfl rfl rfl sz38 (.there .here) rfl (fun v hv => by simp only [List.mem_cons, List.not_mem_nil, or_false] at hv; rcases hv with rfl | rfl | rfl | rfl <;> rfl) (wanted_none rfl) rfl (by kernel_rfl) rfl ?_; clear S a H; intro w a H S
    revert a;refine qD (pT (pZ ?_))
    have hil := ints_len s
    have hR : (fieldQ (ints s) q 0) = ⟨some ((tkT 3 7 (ints s) q), kdm, raw), none, q', 5, ln⟩ := hF.trans (if_pos (by omega))
    intro a S
    rw [hR]
    exact r_retctc S rfl rfl rfl rfl (lva (cs := [.string (strOfNums (tkT 3 7 (ints s) q)), .int .i64 kd, .string rb]) ag71 sz71 rfl H m2) (lva (cs := [.bool false, .int .i64 0, .int .i64 0, .bool false]) ag38 sz38 rfl H m1) ⟨_, _, _, _, _, rfl, (H.sub (.cons_cons _ ((.cons _ (.cons _ (.refl _))))))⟩
   have c28 := of_decide_eq_false bc28
   refine pS ?_;intro a S
   refine d_start (id := 45) [] 11 (bA 11 0) H rfl rfl rfl (fun w H => ?_)
   revert a;refine qM [0,1,4,5] rfl (qA 2 fa73_0 rfl rfl rfl rfl (qE 3 H rfl rfl rfl m0 rfl ag9 rfl (qA 6 fa73_1 rfl rfl rfl rfl (qE 7 H rfl rfl rfl m0 rfl ag3 rfl (qP 8 rfl (p_index rfl rfl (fun w => ix_string Tryz.underlying9 (by omega) (by omega))) rfl ?_)))))
   obtain ⟨b30, hb30, lb30, nb30, gb30⟩ := bt_natI s (((q' : Nat) : Int)) (q') (by first | rfl | omega)
   intro a S
   rw [hb30] at S
   revert a;refine qP 9 rfl (p_eql rfl rfl) rfl (qM [10] rfl (qD (pT (zc rfl (fun bc32 => ?_) (fun bc32 => ?_)))))
   ·
    have c32 := eq_of_beq bc32
    refine pG (pM 2 rfl (pA fa73_1 rfl rfl rfl (pD H rfl rfl m0 rfl ag3 rfl (pP (p_add rfl rfl (nat_add (x := q') (y := 1) (by omega))) rfl (pM 1 rfl (pA fa73_1 rfl rfl rfl (pE H rfl rfl rfl .here (by first | decide | simp [Value.cells]) sz3 ?_)))))));clear H;intro w H
    refine pL (pI 2 (pT (pS ?_)));intro a S
    refine d_start (id := 49) [4] 5 (bA 5 0) H rfl rfl rfl (fun w H => ?_)
    revert a;refine qR 0 H rfl (r_loadn (m := 3) (vs := [.string (strOfNums (tkT 3 7 (ints s) q)), .int .i64 kd, .string rb]) rfl m2 ag71 sz71 rfl rfl) rfl (qR 1 H rfl (r_loadn (m := 4) (vs := [.bool false, .int .i64 0, .int .i64 0, .bool false]) rfl m1 ag38 sz38 rfl rfl) rfl ?_);intro a S
    refine d_storeAllN (i := 2) (vs := [.string (strOfNums (tkT 3 7 (ints s) q)), .int .i64 kd, .string rb]) (bA 5 7) S H rfl rfl rfl rfl sz71 (.there (.there .here)) rfl (fun v hv => by simp only [List.mem_cons, List.not_mem_nil, or_false] at hv; rcases hv with rfl | rfl | rfl <;> rfl) (fun _ H => H) (wanted_none rfl) rfl (by kernel_rfl) rfl ?_; clear S a H; intro w a H S
    revert a;refine qM [3] rfl ?_;intro a S
    refine d_storeAll (i := 4) (vs := [.bool false, .int .i64 0, .int .i64 0, .bool false]) (bA 5 31) S H rfl rfl rfl rfl sz38 (.there .here) rfl (fun v hv => by simp only [List.mem_cons, List.not_mem_nil, or_false] at hv; rcases hv with rfl | rfl | rfl | rfl <;> rfl) (wanted_none rfl) rfl (by kernel_rfl) rfl ?_; clear S a H; intro w a H S
    revert a;refine qD (pT (pZ ?_))
    have hil := ints_len s
    have hR : (fieldQ (ints s) q 0) = ⟨some ((tkT 3 7 (ints s) q), kdm, raw), none, q' + 1, 2, ln⟩ := hF.trans ((if_neg (by omega)).trans ((if_pos (by omega))))
    intro a S
    rw [hR]
    exact r_retctc S rfl rfl rfl rfl (lva (cs := [.string (strOfNums (tkT 3 7 (ints s) q)), .int .i64 kd, .string rb]) ag71 sz71 rfl H m2) (lva (cs := [.bool false, .int .i64 0, .int .i64 0, .bool false]) ag38 sz38 rfl H m1) ⟨_, _, _, _, _, rfl, (H.sub (.cons_cons _ ((.cons _ (.cons _ (.refl _))))))⟩
   have c32 := ne_of_beq_false bc32
   refine pS (pG (pM 1 rfl ?_))
   have hcon := dec.jb.next_ _ _ _ _ _ _ _ _ hs 1 (by decide) H
   refine pC Tryz.func65 hcon ?_
   rintro e w ⟨n34, rfl, hn34, hH⟩
   refine ⟨_, rfl, ?_⟩
   clear H hcon; have H := hH; clear hH
   refine pP (p_not rfl) rfl (pM 1 rfl (pL (pT (zc rfl (fun bc37 => ?_) (fun bc37 => ?_)))))
   ·
    have c37 := not_eq_true_ bc37
    refine pS (pG (pP (p_bld (ps := []) rfl (bld71_)) rfl (pM 3 rfl (pA fa73_1 rfl rfl rfl (pD H rfl rfl m0 rfl ag3 rfl ?_)))))
    have hcon := dec.jc.fault_ _ _ _ _ _ _ _ _ hs (q') (by omega) (by omega) H
    refine pC Tryz.func69 hcon ?_
    rintro e w ⟨lf38, kf38, rfl, hH⟩
    refine ⟨_, rfl, ?_⟩
    clear H hcon; have H := hH; clear hH
    rw [show fsec 2 = 4 from rfl] at H
    refine pF [.string ⟨#[]⟩, .int .i64 0, .string ⟨#[]⟩] H rfl rfl sz71 (.there (.there .here)) ?_;clear H;intro w H
    refine pM 1 rfl (pF [.bool true, .int .i64 lf38, .int .i64 kf38, .bool false] H rfl rfl sz38 (.there .here) ?_);clear H;intro w H
    refine pL (pT (pZ (pJ (pU ?_))))
    have hil := ints_len s
    have hw0 : sIn 1 ((ints s).getD q' 0).toNat = false := by
     cases hc : sIn 1 ((ints s).getD q' 0).toNat with
     | false => rfl
     | true => exact absurd (hn34.2 ⟨by omega, hc⟩) (by simpa using bc37)
    have hR : (fieldQ (ints s) q 0) = ⟨none, some (flt (ints s) q' q' ln), q', 4, ln⟩ := hF.trans ((if_neg (by omega)).trans ((if_neg (by omega)).trans ((if_pos hw0))))
    intro a S
    rw [hR]
    exact r_retctc S rfl rfl rfl rfl (lva (cs := [.string ⟨#[]⟩, .int .i64 0, .string ⟨#[]⟩]) ag71 sz71 rfl H m2) (lva (cs := [.bool true, .int .i64 lf38, .int .i64 kf38, .bool false]) ag38 sz38 rfl H m1) ⟨_, _, _, _, _, rfl, (H.sub (.cons_cons _ ((.cons _ (.cons _ (.refl _))))))⟩
   have c37 := not_eq_false_ bc37
   refine pS (pG (pM 1 rfl ?_))
   have hcon := dec.jb.run_ _ _ _ _ _ _ _ _ hs 0 (by decide) (by omega) H
   refine pC Tryz.func29 hcon ?_
   rintro e w ⟨m40, rfl, hm40, hH⟩
   refine ⟨_, rfl, ?_⟩
   clear H hcon; have H := hH; clear hH
   have gm40 := run_ge 0 (ints s) q'
   have lm40 := run_le (k := 0) (X := ints s) (p := q') (by rw [ints_len]; omega)
   have hsl := ints_len s
   refine pL (pT (pS ?_));intro a S
   refine d_start (id := 38) [] 15 (bA 15 0) H rfl rfl rfl (fun w H => ?_)
   revert a;refine qM [0,1,4,5] rfl (qA 2 fa73_0 rfl rfl rfl rfl (qE 3 H rfl rfl rfl m0 rfl ag9 rfl (qA 6 fa73_1 rfl rfl rfl rfl (qE 7 H rfl rfl rfl m0 rfl ag3 rfl (qP 8 rfl (p_slice rfl (o_some rfl) (fun _ _ => o_none) (fun _ _ => o_none) (fun w => sl_string_lo Tryz.underlying9 (by omega) (by omega))) rfl ?_)))));intro a S
   simp only [Int.toNat_natCast] at S
   have hcon := dec.ja.end_ wb _ _ (s.extract ((run 0 (ints s) q')) (s.size)) (by rw [ByteArray.size_extract]; omega) H
   rw [show ints (s.extract ((run 0 (ints s) q')) (s.size)) = (ints s).drop ((run 0 (ints s) q')) by rw [ints_extract, ← ints_len, List.take_length], eol_drop (by rw [ints_len]; omega)] at hcon
   have hel := eol_le (X := ints s) (p := (run 0 (ints s) q')) (by rw [ints_len]; omega)
   have hsl := ints_len s
   refine d_call (i := 9) (bA 15 1023) S rfl rfl rfl Tryz.func67 rfl rfl hcon (wanted_none rfl) rfl rfl (by kernel_rfl) rfl ?_
   rintro e w ⟨rfl, hH⟩
   refine ⟨_, rfl, hH, ?_⟩;clear S a
   clear H hcon; have H := hH; clear hH
   refine qM [10,11,12,13,14] rfl (qD (pT (pS (pG (pM 2 rfl (pA fa73_1 rfl rfl rfl (pD H rfl rfl m0 rfl ag3 rfl (pM 1 rfl (pP (p_add rfl rfl (nat_add (x := (run 0 (ints s) q')) (y := ((dc.eol (ints s) ((run 0 (ints s) q'))).2.1)) (by omega))) rfl (pM 1 rfl (pA fa73_1 rfl rfl rfl (pE H rfl rfl rfl .here (by first | decide | simp [Value.cells]) sz3 ?_))))))))))));clear H;intro w H
   refine pL (pT (pS (pG (pM 2 rfl (pA fa73_2 rfl rfl rfl (pE H rfl rfl rfl .here (by first | decide | simp [Value.cells]) sz3 ?_))))));clear H;intro w H
   refine pL (pT (pS (pG (pM 1 rfl (pL (pT (zc rfl (fun bc42 => ?_) (fun bc42 => ?_))))))))
   ·
    have c42 := bc42
    refine pG (pM 2 rfl (pA fa73_2 rfl rfl rfl (pE H rfl rfl rfl .here (by first | decide | simp [Value.cells]) sz3 ?_)));clear H;intro w H
    refine pL (pI 2 (pT (pS ?_)));intro a S
    refine d_start (id := 49) [4] 5 (bA 5 0) H rfl rfl rfl (fun w H => ?_)
    revert a;refine qR 0 H rfl (r_loadn (m := 3) (vs := [.string (strOfNums (tkT 3 7 (ints s) q)), .int .i64 kd, .string rb]) rfl m2 ag71 sz71 rfl rfl) rfl (qR 1 H rfl (r_loadn (m := 4) (vs := [.bool false, .int .i64 0, .int .i64 0, .bool false]) rfl m1 ag38 sz38 rfl rfl) rfl ?_);intro a S
    refine d_storeAllN (i := 2) (vs := [.string (strOfNums (tkT 3 7 (ints s) q)), .int .i64 kd, .string rb]) (bA 5 7) S H rfl rfl rfl rfl sz71 (.there (.there .here)) rfl (fun v hv => by simp only [List.mem_cons, List.not_mem_nil, or_false] at hv; rcases hv with rfl | rfl | rfl <;> rfl) (fun _ H => H) (wanted_none rfl) rfl (by kernel_rfl) rfl ?_; clear S a H; intro w a H S
    revert a;refine qM [3] rfl ?_;intro a S
    refine d_storeAll (i := 4) (vs := [.bool false, .int .i64 0, .int .i64 0, .bool false]) (bA 5 31) S H rfl rfl rfl rfl sz38 (.there .here) rfl (fun v hv => by simp only [List.mem_cons, List.not_mem_nil, or_false] at hv; rcases hv with rfl | rfl | rfl | rfl <;> rfl) (wanted_none rfl) rfl (by kernel_rfl) rfl ?_; clear S a H; intro w a H S
    revert a;refine qD (pT (pZ ?_))
    have hil := ints_len s
    have hw1 := (hn34.1 (by simpa using bc37)).2
    have hR : (fieldQ (ints s) q 0) = ⟨some ((tkT 3 7 (ints s) q), kdm, raw), none, run 0 (ints s) q' + (dc.eol (ints s) (run 0 (ints s) q')).2.1, 5, ln + (dc.eol (ints s) (run 0 (ints s) q')).2.2⟩ := hF.trans ((if_neg (by omega)).trans ((if_neg (by omega)).trans ((if_neg (by rw [hw1]; decide)).trans ((if_pos bc42)))))
    intro a S
    rw [hR]
    exact r_retctc S rfl rfl rfl rfl (lva (cs := [.string (strOfNums (tkT 3 7 (ints s) q)), .int .i64 kd, .string rb]) ag71 sz71 rfl H m2) (lva (cs := [.bool false, .int .i64 0, .int .i64 0, .bool false]) ag38 sz38 rfl H m1) ⟨_, _, _, _, _, rfl, (H.sub (.cons_cons _ ((.cons _ (.cons _ (.refl _))))))⟩
   have c42 := bc42
   refine pK (pI 2 (pT (pS ?_)));intro a S
   refine d_start (id := 49) [4] 5 (bA 5 0) H rfl rfl rfl (fun w H => ?_)
   revert a;refine qR 0 H rfl (r_loadn (m := 3) (vs := [.string (strOfNums (tkT 3 7 (ints s) q)), .int .i64 kd, .string rb]) rfl m2 ag71 sz71 rfl rfl) rfl (qR 1 H rfl (r_loadn (m := 4) (vs := [.bool false, .int .i64 0, .int .i64 0, .bool false]) rfl m1 ag38 sz38 rfl rfl) rfl ?_);intro a S
   refine d_storeAllN (i := 2) (vs := [.string (strOfNums (tkT 3 7 (ints s) q)), .int .i64 kd, .string rb]) (bA 5 7) S H rfl rfl rfl rfl sz71 (.there (.there .here)) rfl (fun v hv => by simp only [List.mem_cons, List.not_mem_nil, or_false] at hv; rcases hv with rfl | rfl | rfl <;> rfl) (fun _ H => H) (wanted_none rfl) rfl (by kernel_rfl) rfl ?_; clear S a H; intro w a H S
   revert a;refine qM [3] rfl ?_;intro a S
   refine d_storeAll (i := 4) (vs := [.bool false, .int .i64 0, .int .i64 0, .bool false]) (bA 5 31) S H rfl rfl rfl rfl sz38 (.there .here) rfl (fun v hv => by simp only [List.mem_cons, List.not_mem_nil, or_false] at hv; rcases hv with rfl | rfl | rfl | rfl <;> rfl) (wanted_none rfl) rfl (by kernel_rfl) rfl ?_; clear S a H; intro w a H S
   revert a;refine qD (pT (pZ ?_))
   have hil := ints_len s
   have hw1 := (hn34.1 (by simpa using bc37)).2
   obtain ⟨hz1, hz2⟩ := eol_no bc42
   rw [hz1] at H
   simp only [Nat.add_zero] at H
   have hR : (fieldQ (ints s) q 0) = ⟨some ((tkT 3 7 (ints s) q), kdm, raw), none, run 0 (ints s) q', 3, ln⟩ := hF.trans ((if_neg (by omega)).trans ((if_neg (by omega)).trans ((if_neg (by rw [hw1]; decide)).trans ((if_neg (by rw [bc42]; decide))))))
   intro a S
   rw [hR]
   exact r_retctc S rfl rfl rfl rfl (lva (cs := [.string (strOfNums (tkT 3 7 (ints s) q)), .int .i64 kd, .string rb]) ag71 sz71 rfl H m2) (lva (cs := [.bool false, .int .i64 0, .int .i64 0, .bool false]) ag38 sz38 rfl H m1) ⟨_, _, _, _, _, rfl, (H.sub (.cons_cons _ ((.cons _ (.cons _ (.refl _))))))⟩
  revert a;refine pS ?_;intro a S
  refine d_start (id := 15) [] 10 (bA 10 0) H rfl rfl rfl (fun w H => ?_)
  revert a;refine qM [0,1,4,5] rfl (qA 2 fa73_0 rfl rfl rfl rfl (qE 3 H rfl rfl rfl m0 rfl ag9 rfl (qA 6 fa73_1 rfl rfl rfl rfl (qE 7 H rfl rfl rfl m0 rfl ag3 rfl (qP 8 rfl (p_index rfl rfl (fun w => ix_string Tryz.underlying9 (by omega) (by omega))) rfl ?_)))))
  obtain ⟨b45, hb45, lb45, nb45, gb45⟩ := bt_natI s (((((tkQ 3 7 (ints s) q) + 1) : Nat) : Int)) (((tkQ 3 7 (ints s) q) + 1)) (by first | rfl | omega)
  intro a S
  rw [hb45] at S
  revert a;refine qM [9] rfl (qD (pT (pB (pS (pG (pM 1 rfl (pP (p_eql rfl rfl) rfl (pM 1 rfl (pL (pT (zc rfl (fun bc47 => ?_) (fun bc47 => ?_))))))))))))
  ·
   have c47 := eq_of_beq bc47
   refine pS (pG (pM 2 rfl (pA fa73_1 rfl rfl rfl (pD H rfl rfl m0 rfl ag3 rfl (pM 1 rfl (pL (pT (pS (pG (pM 2 rfl (pA fa73_1 rfl rfl rfl (pD H rfl rfl m0 rfl ag3 rfl (pP (p_add (r := (((tkQ 3 7 (ints s) q) + 2 : Nat) : Int)) rfl rfl ((IntWalk.i64_in _ (by omega)).trans (by omega))) rfl (pM 1 rfl (pA fa73_1 rfl rfl rfl (pE H rfl rfl rfl .here (by first | decide | simp [Value.cells]) sz3 ?_))))))))))))))));clear H;intro w H
   refine pL (pT (pS (pG (pA fa71_1 rfl rfl rfl (pE H rfl rfl rfl (.there (.there .here)) (by first | decide | simp [Value.cells]) sz3 ?_)))));clear H;intro w H
   refine pL (pT (pS (pG (pM 1 rfl ?_))))
   have hil := ints_len s
   have qt48 := tkQ_le (k := 4) (s := 8) (X := (ints s)) (p := ((tkQ 3 7 (ints s) q) + 2)) (by omega)
   have hcon := dec.jc.token_ _ _ _ _ _ _ _ _ hs 4 (by decide) (by omega) (by omega) H
   rw [show sOf 4 = 8 from rfl] at hcon
   refine pC Tryz.func68 hcon ?_
   rintro e w (⟨vt48, rfl, hH⟩ | ⟨vt48, lt48, kt48, rfl, hH⟩)
   ·
    refine ⟨_, rfl, ?_⟩
    clear H hcon; have H := hH; clear hH
    refine pM 3 rfl (pA fa71_2 rfl rfl rfl (pE H rfl rfl rfl (.there (.there .here)) (by first | decide | simp [Value.cells]) sz9 ?_));clear H;intro w H
    refine pF [.bool false, .int .i64 0, .int .i64 0, .bool false] H rfl rfl sz38 (.there .here) ?_;clear H;intro w H
    refine pL (pT (pS (pS (pG (pA fa38_0 rfl rfl rfl (pD H rfl rfl m1 rfl ag4 rfl (pL (pT (zf (pK (pT (pS (pS (pG (pM 1 rfl ?_)))))))))))))))
    have hcon := dec.jb.done_ _ _ _ _ _ _ _ _ hs H
    refine pC Tryz.func31 hcon ?_
    rintro e w ⟨rfl, hH⟩
    refine ⟨_, rfl, ?_⟩
    clear H hcon; have H := hH; clear hH
    refine pL (pT (zc rfl (fun bc52 => ?_) (fun bc52 => ?_)))
    ·
     have c52 := of_decide_eq_true bc52
     refine pS (pG (pP (p_bld (ps := []) rfl (bld71_)) rfl (pM 2 rfl ?_)))
     have hcon := dec.jc.fault_ _ _ _ _ _ _ _ _ hs (((tkQ 3 7 (ints s) q) + 1)) (by omega) (by omega) H
     refine pC Tryz.func69 hcon ?_
     rintro e w ⟨lf53, kf53, rfl, hH⟩
     refine ⟨_, rfl, ?_⟩
     clear H hcon; have H := hH; clear hH
     rw [show fsec 2 = 4 from rfl] at H
     refine pF [.string ⟨#[]⟩, .int .i64 0, .string ⟨#[]⟩] H rfl rfl sz71 (.there (.there .here)) ?_;clear H;intro w H
     refine pM 1 rfl (pF [.bool true, .int .i64 lf53, .int .i64 kf53, .bool false] H rfl rfl sz38 (.there .here) ?_);clear H;intro w H
     refine pL (pT (pZ (pU (pJ (pU ?_)))))
     have hil := ints_len s
     have hR : (fieldQ (ints s) q 0) = ⟨none, some (flt (ints s) ((tkQ 3 7 (ints s) q) + 1) (tkQ 4 8 (ints s) ((tkQ 3 7 (ints s) q) + 2)) (lnT (sIn 8) (ints s) ((tkQ 3 7 (ints s) q) + 2) (tkQ 4 8 (ints s) ((tkQ 3 7 (ints s) q) + 2)) 0)), (tkQ 4 8 (ints s) ((tkQ 3 7 (ints s) q) + 2)), 4, (lnT (sIn 8) (ints s) ((tkQ 3 7 (ints s) q) + 2) (tkQ 4 8 (ints s) ((tkQ 3 7 (ints s) q) + 2)) 0)⟩ := (if_neg (tru_ne vt5)).trans ((if_neg (fun h => c9 (tk_empty.2 h))).trans ((if_neg (fun h => by rcases h with h | h <;> omega)).trans ((if_neg (by omega)).trans ((if_pos (by omega)).trans ((if_neg (tru_ne vt48)).trans ((if_pos (by omega))))))))
     intro a S
     rw [hR]
     exact r_retctc S rfl rfl rfl rfl (lva (cs := [.string ⟨#[]⟩, .int .i64 0, .string ⟨#[]⟩]) ag71 sz71 rfl H m2) (lva (cs := [.bool true, .int .i64 lf53, .int .i64 kf53, .bool false]) ag38 sz38 rfl H m1) ⟨_, _, _, _, _, rfl, (H.sub (.cons_cons _ ((.cons _ (.cons _ (.refl _))))))⟩
    have c52 := of_decide_eq_false bc52
    refine pK (pT (pG (pM 2 rfl (pA fa73_1 rfl rfl rfl (pD H rfl rfl m0 rfl ag3 rfl (pP (p_add rfl rfl (nat_add (x := (tkQ 4 8 (ints s) ((tkQ 3 7 (ints s) q) + 2))) (y := 1) (by omega))) rfl (pM 1 rfl (pA fa73_1 rfl rfl rfl (pE H rfl rfl rfl .here (by first | decide | simp [Value.cells]) sz3 ?_)))))))));clear H;intro w H
    refine pL (pI 0 (pT ?_));intro a S
    exact ⟨1, (strOfNums (tkT 4 8 (ints s) ((tkQ 3 7 (ints s) q) + 2))), (tkT 4 8 (ints s) ((tkQ 3 7 (ints s) q) + 2)), 1, ((tkQ 4 8 (ints s) ((tkQ 3 7 (ints s) q) + 2)) + 1), (lnT (sIn 8) (ints s) ((tkQ 3 7 (ints s) q) + 2) (tkQ 4 8 (ints s) ((tkQ 3 7 (ints s) q) + 2)) 0), S.only ⟨rfl, rfl, rfl, trivial⟩, H, by omega, (if_neg (tru_ne vt5)).trans ((if_neg (fun h => c9 (tk_empty.2 h))).trans ((if_neg (fun h => by rcases h with h | h <;> omega)).trans ((if_neg (by omega)).trans ((if_pos (by omega)).trans ((if_neg (tru_ne vt48)).trans ((if_neg (by omega))))))))⟩
   refine ⟨_, rfl, ?_⟩
   clear H hcon; have H := hH; clear hH
   rw [show fsec 2 = 4 from rfl] at H
   refine pM 3 rfl (pA fa71_2 rfl rfl rfl (pE H rfl rfl rfl (.there (.there .here)) (by first | decide | simp [Value.cells]) sz9 ?_));clear H;intro w H
   refine pF [.bool true, .int .i64 lt48, .int .i64 kt48, .bool false] H rfl rfl sz38 (.there .here) ?_;clear H;intro w H
   refine pL (pT (pS (pS (pG (pA fa38_0 rfl rfl rfl (pD H rfl rfl m1 rfl ag4 rfl (pL (pT (zt (pS ?_))))))))));intro a S
   refine d_startW (id := 23) (Lr := ((g, .cells #[.string s, .int .i64 (((tkQ 4 8 (ints s) ((tkQ 3 7 (ints s) q) + 2)) : Nat) : Int), .int .i64 4, .int .i64 ((fr : Nat) : Int)] 73 (0, 0)) :: (gf, .cells #[.bool true, .int .i64 lt48, .int .i64 kt48, .bool false] 38 (0, 0)) :: L0)) [4] 5 (bA 5 0) H (fun _ H => H.sub ((.cons_cons _ ((.cons_cons _ ((.cons _ (.refl _)))))))) rfl rfl rfl (fun w H => ?_)
   revert a;refine qP 0 rfl (p_bld (ps := []) rfl (bld71_)) rfl (qR 1 (H.sub ((.cons_cons _ ((.cons_cons _ ((.cons _ (.refl _)))))))) rfl (r_loadn (m := 4) (vs := [.bool true, .int .i64 lt48, .int .i64 kt48, .bool false]) rfl m1 ag38 sz38 rfl rfl) rfl ?_);intro a S
   refine d_storeAllN (i := 2) (vs := [.string ⟨#[]⟩, .int .i64 0, .string ⟨#[]⟩]) (bA 5 7) S H rfl rfl rfl rfl sz71 (.there (.there .here)) rfl (fun v hv => by simp only [List.mem_cons, List.not_mem_nil, or_false] at hv; rcases hv with rfl | rfl | rfl <;> rfl) (fun _ H => H.sub ((.cons_cons _ ((.cons_cons _ ((.cons _ (.refl _)))))))) (wanted_none rfl) rfl (by kernel_rfl) rfl ?_; clear S a H; intro w a H S
   revert a;refine qM [3] rfl ?_;intro a S
   refine d_storeAll (i := 4) (vs := [.bool true, .int .i64 lt48, .int .i64 kt48, .bool false]) (bA 5 31) S H rfl rfl rfl rfl sz38 (.there .here) rfl (fun v hv => by simp only [List.mem_cons, List.not_mem_nil, or_false] at hv; rcases hv with rfl | rfl | rfl | rfl <;> rfl) (wanted_none rfl) rfl (by kernel_rfl) rfl ?_; clear S a H; intro w a H S
   revert a;refine qD (pT (pZ (pU (pJ (pU ?_)))))
   have hil := ints_len s
   have hR : (fieldQ (ints s) q 0) = ⟨none, some (flt (ints s) ((tkQ 3 7 (ints s) q) + 2) (tkQ 4 8 (ints s) ((tkQ 3 7 (ints s) q) + 2)) (lnT (sIn 8) (ints s) ((tkQ 3 7 (ints s) q) + 2) (tkQ 4 8 (ints s) ((tkQ 3 7 (ints s) q) + 2)) 0)), (tkQ 4 8 (ints s) ((tkQ 3 7 (ints s) q) + 2)), 4, (lnT (sIn 8) (ints s) ((tkQ 3 7 (ints s) q) + 2) (tkQ 4 8 (ints s) ((tkQ 3 7 (ints s) q) + 2)) 0)⟩ := (if_neg (tru_ne vt5)).trans ((if_neg (fun h => c9 (tk_empty.2 h))).trans ((if_neg (fun h => by rcases h with h | h <;> omega)).trans ((if_neg (by omega)).trans ((if_pos (by omega)).trans ((if_pos vt48))))))
   intro a S
   rw [hR]
   exact r_retctc S rfl rfl rfl rfl (lva (cs := [.string ⟨#[]⟩, .int .i64 0, .string ⟨#[]⟩]) ag71 sz71 rfl H m2) (lva (cs := [.bool true, .int .i64 lt48, .int .i64 kt48, .bool false]) ag38 sz38 rfl H m1) ⟨_, _, _, _, _, rfl, (H.sub (.cons_cons _ ((.cons _ (.cons _ (.refl _))))))⟩
  have c47 := ne_of_beq_false bc47
  intro a S
  refine c_cut (fun a w => ∃ cb : Bool, SL a 265 [] [(0, .pointer (some ⟨g, 0, none⟩)), (2, .pointer (some ⟨gd, 0, none⟩)), (4, .pointer (some ⟨gf, 0, none⟩)), (5, .int .i64 ((q : Nat) : Int)), (6, .int .u8 ((b45 : Nat) : Int)), (136, .bool cb)] ∧ HH wb.heap.size wb w ((g, Obj.cells #[.string s, .int .i64 ((((tkQ 3 7 (ints s) q) + 1) : Nat) : Int), .int .i64 2, .int .i64 ((fr : Nat) : Int)] 73 (0, 0)) :: (gf, Obj.cells #[.bool false, .int .i64 0, .int .i64 0, .bool false] 38 (0, 0)) :: (gd, Obj.cells #[.string (strOfNums (tkT 3 7 (ints s) q)), .int .i64 0, .string ⟨#[]⟩] 71 (0, 0)) :: L0) ∧ (cb = true ↔ (((ints s).getD ((tkQ 3 7 (ints s) q) + 1) 0) = 116 ∨ ((ints s).getD ((tkQ 3 7 (ints s) q) + 1) 0) = 84 ∨ ((ints s).getD ((tkQ 3 7 (ints s) q) + 1) 0) = 102 ∨ ((ints s).getD ((tkQ 3 7 (ints s) q) + 1) 0) = 70))) ?_ ?_
  ·
   clear S a H; rintro a w ⟨cb, S, H, hCB⟩
   revert a;refine zc rfl (fun bc58 => ?_) (fun bc58 => ?_)
   ·
    have c58 := bc58
    have hbl : (((ints s).getD ((tkQ 3 7 (ints s) q) + 1) 0) = 116 ∨ ((ints s).getD ((tkQ 3 7 (ints s) q) + 1) 0) = 84 ∨ ((ints s).getD ((tkQ 3 7 (ints s) q) + 1) 0) = 102 ∨ ((ints s).getD ((tkQ 3 7 (ints s) q) + 1) 0) = 70) := hCB.1 bc58
    refine pG (pM 1 rfl ?_)
    have hcon := dec.jb.run_ _ _ _ _ _ _ _ _ hs 9 (by decide) (by omega) H
    refine pC Tryz.func29 hcon ?_
    rintro e w ⟨m59, rfl, hm59, hH⟩
    refine ⟨_, rfl, ?_⟩
    clear H hcon; have H := hH; clear hH
    have gm59 := run_ge 9 (ints s) ((tkQ 3 7 (ints s) q) + 1)
    have lm59 := run_le (k := 9) (X := ints s) (p := ((tkQ 3 7 (ints s) q) + 1)) (by rw [ints_len]; omega)
    have hsl := ints_len s
    refine pA fa71_1 rfl rfl rfl (pE H rfl rfl rfl (.there (.there .here)) (by first | decide | simp [Value.cells]) sz3 ?_);clear H;intro w H
    refine pA fa71_2 rfl rfl rfl (pE H rfl rfl rfl (.there (.there .here)) (by first | decide | simp [Value.cells]) sz9 ?_);clear H;intro w H
    refine pL (pI 0 (pT ?_));intro a S
    exact ⟨5, m59, (((ints s).take (run 9 (ints s) ((tkQ 3 7 (ints s) q) + 1))).drop ((tkQ 3 7 (ints s) q) + 1)), 5, (run 9 (ints s) ((tkQ 3 7 (ints s) q) + 1)), 0, S.only ⟨rfl, rfl, rfl, trivial⟩, H, by omega, (if_neg (tru_ne vt5)).trans ((if_neg (fun h => c9 (tk_empty.2 h))).trans ((if_neg (fun h => by rcases h with h | h <;> omega)).trans ((if_neg (by omega)).trans ((if_neg (by omega)).trans ((if_pos hbl))))))⟩
   have c58 := bc58
   have hnbl : ¬ (((ints s).getD ((tkQ 3 7 (ints s) q) + 1) 0) = 116 ∨ ((ints s).getD ((tkQ 3 7 (ints s) q) + 1) 0) = 84 ∨ ((ints s).getD ((tkQ 3 7 (ints s) q) + 1) 0) = 102 ∨ ((ints s).getD ((tkQ 3 7 (ints s) q) + 1) 0) = 70) := fun h => absurd (hCB.2 h) (by rw [bc58]; decide)
   intro a S
   refine c_cut (fun a w => ∃ cb : Bool, SL a 265 [] [(0, .pointer (some ⟨g, 0, none⟩)), (2, .pointer (some ⟨gd, 0, none⟩)), (4, .pointer (some ⟨gf, 0, none⟩)), (5, .int .i64 ((q : Nat) : Int)), (6, .int .u8 ((b45 : Nat) : Int)), (155, .bool cb)] ∧ HH wb.heap.size wb w ((g, Obj.cells #[.string s, .int .i64 ((((tkQ 3 7 (ints s) q) + 1) : Nat) : Int), .int .i64 2, .int .i64 ((fr : Nat) : Int)] 73 (0, 0)) :: (gf, Obj.cells #[.bool false, .int .i64 0, .int .i64 0, .bool false] 38 (0, 0)) :: (gd, Obj.cells #[.string (strOfNums (tkT 3 7 (ints s) q)), .int .i64 0, .string ⟨#[]⟩] 71 (0, 0)) :: L0) ∧ (cb = true ↔ (((ints s).getD ((tkQ 3 7 (ints s) q) + 1) 0) = 45 ∨ ((ints s).getD ((tkQ 3 7 (ints s) q) + 1) 0) = 46 ∨ (48 ≤ ((ints s).getD ((tkQ 3 7 (ints s) q) + 1) 0) ∧ ((ints s).getD ((tkQ 3 7 (ints s) q) + 1) 0) ≤ 57)))) ?_ ?_
   ·
    clear S a H; rintro a w ⟨cb, S, H, hCN⟩
    revert a;refine zc rfl (fun bc60 => ?_) (fun bc60 => ?_)
    ·
     have c60 := bc60
     have hnu : (((ints s).getD ((tkQ 3 7 (ints s) q) + 1) 0) = 45 ∨ ((ints s).getD ((tkQ 3 7 (ints s) q) + 1) 0) = 46 ∨ (48 ≤ ((ints s).getD ((tkQ 3 7 (ints s) q) + 1) 0) ∧ ((ints s).getD ((tkQ 3 7 (ints s) q) + 1) 0) ≤ 57)) := hCN.1 bc60
     have h9 : sIn 9 ((ints s).getD ((tkQ 3 7 (ints s) q) + 1) 0).toNat = true := by
      rw [nb45]
      simp [sIn]
      omega
     have hr9 := run_step (k := 9) (X := (ints s)) (p := (tkQ 3 7 (ints s) q) + 1) (by omega) h9
     have hg9 := run_ge 9 (ints s) ((tkQ 3 7 (ints s) q) + 1 + 1)
     refine pS (pG (pM 1 rfl ?_))
     have hcon := dec.jb.run_ _ _ _ _ _ _ _ _ hs 9 (by decide) (by omega) H
     refine pC Tryz.func29 hcon ?_
     rintro e w ⟨m61, rfl, hm61, hH⟩
     refine ⟨_, rfl, ?_⟩
     clear H hcon; have H := hH; clear hH
     have gm61 := run_ge 9 (ints s) ((tkQ 3 7 (ints s) q) + 1)
     have lm61 := run_le (k := 9) (X := ints s) (p := ((tkQ 3 7 (ints s) q) + 1)) (by rw [ints_len]; omega)
     have hsl := ints_len s
     refine pA fa71_1 rfl rfl rfl (pE H rfl rfl rfl (.there (.there .here)) (by first | decide | simp [Value.cells]) sz3 ?_);clear H;intro w H
     refine pA fa71_2 rfl rfl rfl (pE H rfl rfl rfl (.there (.there .here)) (by first | decide | simp [Value.cells]) sz9 ?_);clear H;intro w H
     refine pL (pT (pS (pG (pA fa71_2 rfl rfl rfl (pD H rfl rfl m2 rfl ag9 rfl (pP (p_lens Tryz.underlying9 rfl) rfl (pP (p_sub rfl rfl (nat_sub (x := m61.size) (y := 1) (by omega) (by omega))) rfl (pM 1 rfl (pL (pT (pS (pG (pA fa71_2 rfl rfl rfl (pD H rfl rfl m2 rfl ag9 rfl (pM 1 rfl (pP (p_index rfl rfl (fun w => ix_string Tryz.underlying9 (by omega) (by omega))) rfl ?_))))))))))))))))
     obtain ⟨b62, hb62, lb62, nb62, gb62⟩ := bt_natI m61 ((((m61.size - 1) : Nat) : Int)) ((m61.size - 1)) (by first | rfl | omega)
     intro a S
     rw [hb62] at S
     revert a;refine pL (pT (pB (pS (pG (pP (p_eql rfl rfl) rfl (pM 1 rfl (pL (pT (zc rfl (fun bc64 => ?_) (fun bc64 => ?_))))))))))
     ·
      have c64 := eq_of_beq bc64
      intro a S
      refine d_start (id := 34) [5, 7] 8 (bA 8 0) H rfl rfl rfl (fun w H => ?_)
      revert a;refine qM [2] rfl (qA 0 fa71_2 rfl rfl rfl rfl (qE 1 H rfl rfl rfl m2 rfl ag9 rfl (qP 3 rfl (p_slice rfl (fun _ _ => o_none) (o_some rfl) (fun _ _ => o_none) (fun w => sl_string_hi Tryz.underlying9 (by omega) (by omega))) rfl ?_)));intro a S
      simp only [Int.toNat_natCast] at S
      revert a;refine qA 4 fa71_1 rfl rfl rfl rfl ?_;intro a S
      refine d_store (i := 5) (bA 8 63) S H rfl rfl rfl rfl (.there (.there .here)) (by first | decide | simp [Value.cells]) (fun w u hc hz => st1 sz3 rfl hc hz) (wanted_none rfl) rfl (by kernel_rfl) rfl ?_; clear S a H; intro w a H S
      revert a;refine qA 6 fa71_2 rfl rfl rfl rfl ?_;intro a S
      refine d_store (i := 7) (bA 8 255) S H rfl rfl rfl rfl (.there (.there .here)) (by first | decide | simp [Value.cells]) (fun w u hc hz => st1 sz9 rfl hc hz) (wanted_none rfl) rfl (by kernel_rfl) rfl ?_; clear S a H; intro w a H S
      revert a;refine qD (pI 1 (pI 0 (pT ?_)));intro a S
      exact ⟨2, (m61.extract (0) ((m61.size - 1))), (numK (((ints s).take (run 9 (ints s) ((tkQ 3 7 (ints s) q) + 1))).drop ((tkQ 3 7 (ints s) q) + 1))).2, ((numK (((ints s).take (run 9 (ints s) ((tkQ 3 7 (ints s) q) + 1))).drop ((tkQ 3 7 (ints s) q) + 1))).1 + 1), (run 9 (ints s) ((tkQ 3 7 (ints s) q) + 1)), 0, S.only ⟨rfl, rfl, rfl, trivial⟩, H, by omega, (if_neg (tru_ne vt5)).trans ((if_neg (fun h => c9 (tk_empty.2 h))).trans ((if_neg (fun h => by rcases h with h | h <;> omega)).trans ((if_neg (by omega)).trans ((if_neg (by omega)).trans ((if_neg hnbl).trans ((if_pos hnu)))))))⟩
     have c64 := ne_of_beq_false bc64
     refine pS (pG (pP (p_eql rfl rfl) rfl (pM 1 rfl (pL (pT (zc rfl (fun bc66 => ?_) (fun bc66 => ?_)))))))
     ·
      have c66 := eq_of_beq bc66
      intro a S
      refine d_start (id := 36) [5, 7] 8 (bA 8 0) H rfl rfl rfl (fun w H => ?_)
      revert a;refine qM [2] rfl (qA 0 fa71_2 rfl rfl rfl rfl (qE 1 H rfl rfl rfl m2 rfl ag9 rfl (qP 3 rfl (p_slice rfl (fun _ _ => o_none) (o_some rfl) (fun _ _ => o_none) (fun w => sl_string_hi Tryz.underlying9 (by omega) (by omega))) rfl ?_)));intro a S
      simp only [Int.toNat_natCast] at S
      revert a;refine qA 4 fa71_1 rfl rfl rfl rfl ?_;intro a S
      refine d_store (i := 5) (bA 8 63) S H rfl rfl rfl rfl (.there (.there .here)) (by first | decide | simp [Value.cells]) (fun w u hc hz => st1 sz3 rfl hc hz) (wanted_none rfl) rfl (by kernel_rfl) rfl ?_; clear S a H; intro w a H S
      revert a;refine qA 6 fa71_2 rfl rfl rfl rfl ?_;intro a S
      refine d_store (i := 7) (bA 8 255) S H rfl rfl rfl rfl (.there (.there .here)) (by first | decide | simp [Value.cells]) (fun w u hc hz => st1 sz9 rfl hc hz) (wanted_none rfl) rfl (by kernel_rfl) rfl ?_; clear S a H; intro w a H S
      revert a;refine qD (pI 1 (pI 0 (pT ?_)));intro a S
      exact ⟨3, (m61.extract (0) ((m61.size - 1))), (numK (((ints s).take (run 9 (ints s) ((tkQ 3 7 (ints s) q) + 1))).drop ((tkQ 3 7 (ints s) q) + 1))).2, ((numK (((ints s).take (run 9 (ints s) ((tkQ 3 7 (ints s) q) + 1))).drop ((tkQ 3 7 (ints s) q) + 1))).1 + 1), (run 9 (ints s) ((tkQ 3 7 (ints s) q) + 1)), 0, S.only ⟨rfl, rfl, rfl, trivial⟩, H, by omega, (if_neg (tru_ne vt5)).trans ((if_neg (fun h => c9 (tk_empty.2 h))).trans ((if_neg (fun h => by rcases h with h | h <;> omega)).trans ((if_neg (by omega)).trans ((if_neg (by omega)).trans ((if_neg hnbl).trans ((if_pos hnu)))))))⟩
     have c66 := ne_of_beq_false bc66
     refine pK (pI 1 (pI 0 (pT ?_)));intro a S
     exact ⟨4, m61, (numK (((ints s).take (run 9 (ints s) ((tkQ 3 7 (ints s) q) + 1))).drop ((tkQ 3 7 (ints s) q) + 1))).2, ((numK (((ints s).take (run 9 (ints s) ((tkQ 3 7 (ints s) q) + 1))).drop ((tkQ 3 7 (ints s) q) + 1))).1 + 1), (run 9 (ints s) ((tkQ 3 7 (ints s) q) + 1)), 0, S.only ⟨rfl, rfl, rfl, trivial⟩, H, by omega, (if_neg (tru_ne vt5)).trans ((if_neg (fun h => c9 (tk_empty.2 h))).trans ((if_neg (fun h => by rcases h with h | h <;> omega)).trans ((if_neg (by omega)).trans ((if_neg (by omega)).trans ((if_neg hnbl).trans ((if_pos hnu)))))))⟩
    have c60 := bc60
    have hnnu : ¬ (((ints s).getD ((tkQ 3 7 (ints s) q) + 1) 0) = 45 ∨ ((ints s).getD ((tkQ 3 7 (ints s) q) + 1) 0) = 46 ∨ (48 ≤ ((ints s).getD ((tkQ 3 7 (ints s) q) + 1) 0) ∧ ((ints s).getD ((tkQ 3 7 (ints s) q) + 1) 0) ≤ 57)) := fun h => absurd (hCN.2 h) (by rw [bc60]; decide)
    refine pS (pG (pP (p_bld (ps := []) rfl (bld71_)) rfl (pM 3 rfl (pA fa73_1 rfl rfl rfl (pD H rfl rfl m0 rfl ag3 rfl ?_)))))
    have hcon := dec.jc.fault_ _ _ _ _ _ _ _ _ hs (((tkQ 3 7 (ints s) q) + 1)) (by omega) (by omega) H
    refine pC Tryz.func69 hcon ?_
    rintro e w ⟨lf67, kf67, rfl, hH⟩
    refine ⟨_, rfl, ?_⟩
    clear H hcon; have H := hH; clear hH
    rw [show fsec 2 = 4 from rfl] at H
    refine pF [.string ⟨#[]⟩, .int .i64 0, .string ⟨#[]⟩] H rfl rfl sz71 (.there (.there .here)) ?_;clear H;intro w H
    refine pM 1 rfl (pF [.bool true, .int .i64 lf67, .int .i64 kf67, .bool false] H rfl rfl sz38 (.there .here) ?_);clear H;intro w H
    refine pL (pT (pZ (pJ (pU ?_))))
    have hil := ints_len s
    have hR : (fieldQ (ints s) q 0) = ⟨none, some (flt (ints s) ((tkQ 3 7 (ints s) q) + 1) ((tkQ 3 7 (ints s) q) + 1) 0), ((tkQ 3 7 (ints s) q) + 1), 4, 0⟩ := (if_neg (tru_ne vt5)).trans ((if_neg (fun h => c9 (tk_empty.2 h))).trans ((if_neg (fun h => by rcases h with h | h <;> omega)).trans ((if_neg (by omega)).trans ((if_neg (by omega)).trans ((if_neg hnbl).trans ((if_neg hnnu)))))))
    intro a S
    rw [hR]
    exact r_retctc S rfl rfl rfl rfl (lva (cs := [.string ⟨#[]⟩, .int .i64 0, .string ⟨#[]⟩]) ag71 sz71 rfl H m2) (lva (cs := [.bool true, .int .i64 lf67, .int .i64 kf67, .bool false]) ag38 sz38 rfl H m1) ⟨_, _, _, _, _, rfl, (H.sub (.cons_cons _ ((.cons _ (.cons _ (.refl _))))))⟩
   revert a;refine pG (pM 1 rfl (pP (p_eql rfl rfl) rfl (pM 1 rfl ?_)));intro a S
   refine l_split (S.of 158 rfl) (fun bc70 => ?_) (fun bc70 => ?_)
   ·
    have c70 := eq_of_beq bc70
    revert a;refine pO bc70 rfl (pO bc70 rfl (pP (p_pick_t rfl bc70 rfl) rfl (pM 1 rfl (pO rfl rfl (pO rfl rfl (pO rfl rfl ?_))))));intro a S
    refine l_offU S rfl rfl rfl rfl rfl rfl ?_; clear S a; intro a S
    refine l_offU S rfl rfl rfl rfl rfl rfl ?_; clear S a; intro a S
    revert a;refine pO rfl rfl (pP (p_pick_t rfl rfl rfl) rfl (pM 1 rfl (pL (pT ?_))));intro a S
    exact ⟨_, S.only ⟨rfl, rfl, rfl, rfl, rfl, rfl, trivial⟩, H, by first | exact ⟨fun _ => by omega, fun _ => rfl⟩ | exact ⟨fun h => (by cases h), fun h => (by omega)⟩ | exact ⟨fun h => (by have h' := eq_of_beq h; omega), fun h => (by rw [beq_iff_eq]; omega)⟩ | exact ⟨fun h => (by have h' := of_decide_eq_true h; omega), fun h => decide_eq_true (by omega)⟩⟩
   have c70 := ne_of_beq_false bc70
   revert a;refine pN bc70 (pP (p_move rfl) rfl (pN bc70 (pP (p_eql rfl rfl) rfl (pP (p_pick_f rfl bc70 rfl) rfl (pM 1 rfl ?_)))));intro a S
   refine l_split (S.of 162 rfl) (fun bc74 => ?_) (fun bc74 => ?_)
   ·
    have c74 := eq_of_beq bc74
    revert a;refine pO bc74 rfl (pO bc74 rfl (pO bc74 rfl ?_));intro a S
    refine l_offU S rfl rfl rfl rfl rfl rfl ?_; clear S a; intro a S
    refine l_offU S rfl rfl rfl rfl rfl rfl ?_; clear S a; intro a S
    revert a;refine pO bc74 rfl (pP (p_pick_t rfl bc74 rfl) rfl (pM 1 rfl (pL (pT ?_))));intro a S
    exact ⟨_, S.only ⟨rfl, rfl, rfl, rfl, rfl, rfl, trivial⟩, H, by first | exact ⟨fun _ => by omega, fun _ => rfl⟩ | exact ⟨fun h => (by cases h), fun h => (by omega)⟩ | exact ⟨fun h => (by have h' := eq_of_beq h; omega), fun h => (by rw [beq_iff_eq]; omega)⟩ | exact ⟨fun h => (by have h' := of_decide_eq_true h; omega), fun h => decide_eq_true (by omega)⟩⟩
   have c74 := ne_of_beq_false bc74
   revert a;refine pN bc74 (pP (p_move rfl) rfl (pN bc74 (pP (p_geq rfl rfl) rfl (pN bc74 (pP (p_move rfl) rfl ?_)))));intro a S
   refine l_split (S.of 165 rfl) (fun bc77 => ?_) (fun bc77 => ?_)
   ·
    have c77 := of_decide_eq_true bc77
    revert a;refine pN bc77 (pP (p_move rfl) rfl (pN bc77 (pP (p_leq rfl rfl) rfl (pN bc74 (pP (p_pick_t rfl bc77 rfl) rfl (pP (p_pick_f rfl bc74 rfl) rfl (pM 1 rfl (pL (pT ?_)))))))));intro a S
    exact ⟨_, S.only ⟨rfl, rfl, rfl, rfl, rfl, rfl, trivial⟩, H, by first | exact ⟨fun _ => by omega, fun _ => rfl⟩ | exact ⟨fun h => (by cases h), fun h => (by omega)⟩ | exact ⟨fun h => (by have h' := eq_of_beq h; omega), fun h => (by rw [beq_iff_eq]; omega)⟩ | exact ⟨fun h => (by have h' := of_decide_eq_true h; omega), fun h => decide_eq_true (by omega)⟩⟩
   have c77 := of_decide_eq_false bc77
   revert a;refine pO bc77 rfl (pO bc77 rfl (pN bc74 (pP (p_pick_f rfl bc77 rfl) rfl (pP (p_pick_f rfl bc74 rfl) rfl (pM 1 rfl (pL (pT ?_)))))));intro a S
   exact ⟨_, S.only ⟨rfl, rfl, rfl, rfl, rfl, rfl, trivial⟩, H, by first | exact ⟨fun _ => by omega, fun _ => rfl⟩ | exact ⟨fun h => (by cases h), fun h => (by omega)⟩ | exact ⟨fun h => (by have h' := eq_of_beq h; omega), fun h => (by rw [beq_iff_eq]; omega)⟩ | exact ⟨fun h => (by have h' := of_decide_eq_true h; omega), fun h => decide_eq_true (by omega)⟩⟩
  revert a;refine pG (pM 1 rfl (pP (p_eql rfl rfl) rfl (pM 1 rfl ?_)));intro a S
  refine l_split (S.of 139 rfl) (fun bc81 => ?_) (fun bc81 => ?_)
  ·
   have c81 := eq_of_beq bc81
   revert a;refine pO bc81 rfl (pO bc81 rfl (pP (p_pick_t rfl bc81 rfl) rfl (pM 1 rfl (pO rfl rfl (pO rfl rfl (pP (p_pick_t rfl rfl rfl) rfl (pM 1 rfl (pO rfl rfl (pO rfl rfl (pP (p_pick_t rfl rfl rfl) rfl (pM 1 rfl (pL (pT ?_)))))))))))));intro a S
   exact ⟨_, S.only ⟨rfl, rfl, rfl, rfl, rfl, rfl, trivial⟩, H, by first | exact ⟨fun _ => by omega, fun _ => rfl⟩ | exact ⟨fun h => (by cases h), fun h => (by omega)⟩ | exact ⟨fun h => (by have h' := eq_of_beq h; omega), fun h => (by rw [beq_iff_eq]; omega)⟩ | exact ⟨fun h => (by have h' := of_decide_eq_true h; omega), fun h => decide_eq_true (by omega)⟩⟩
  have c81 := ne_of_beq_false bc81
  revert a;refine pN bc81 (pP (p_move rfl) rfl (pN bc81 (pP (p_eql rfl rfl) rfl (pP (p_pick_f rfl bc81 rfl) rfl (pM 1 rfl ?_)))));intro a S
  refine l_split (S.of 143 rfl) (fun bc86 => ?_) (fun bc86 => ?_)
  ·
   have c86 := eq_of_beq bc86
   revert a;refine pO bc86 rfl (pO bc86 rfl (pP (p_pick_t rfl bc86 rfl) rfl (pM 1 rfl (pO rfl rfl (pO rfl rfl (pP (p_pick_t rfl rfl rfl) rfl (pM 1 rfl (pL (pT ?_)))))))));intro a S
   exact ⟨_, S.only ⟨rfl, rfl, rfl, rfl, rfl, rfl, trivial⟩, H, by first | exact ⟨fun _ => by omega, fun _ => rfl⟩ | exact ⟨fun h => (by cases h), fun h => (by omega)⟩ | exact ⟨fun h => (by have h' := eq_of_beq h; omega), fun h => (by rw [beq_iff_eq]; omega)⟩ | exact ⟨fun h => (by have h' := of_decide_eq_true h; omega), fun h => decide_eq_true (by omega)⟩⟩
  have c86 := ne_of_beq_false bc86
  revert a;refine pN bc86 (pP (p_move rfl) rfl (pN bc86 (pP (p_eql rfl rfl) rfl (pP (p_pick_f rfl bc86 rfl) rfl (pM 1 rfl ?_)))));intro a S
  refine l_split (S.of 147 rfl) (fun bc90 => ?_) (fun bc90 => ?_)
  ·
   have c90 := eq_of_beq bc90
   revert a;refine pO bc90 rfl (pO bc90 rfl (pP (p_pick_t rfl bc90 rfl) rfl (pM 1 rfl (pL (pT ?_)))));intro a S
   exact ⟨_, S.only ⟨rfl, rfl, rfl, rfl, rfl, rfl, trivial⟩, H, by first | exact ⟨fun _ => by omega, fun _ => rfl⟩ | exact ⟨fun h => (by cases h), fun h => (by omega)⟩ | exact ⟨fun h => (by have h' := eq_of_beq h; omega), fun h => (by rw [beq_iff_eq]; omega)⟩ | exact ⟨fun h => (by have h' := of_decide_eq_true h; omega), fun h => decide_eq_true (by omega)⟩⟩
  have c90 := ne_of_beq_false bc90
  revert a;refine pN bc90 (pP (p_move rfl) rfl (pN bc90 (pP (p_eql rfl rfl) rfl (pP (p_pick_f rfl bc90 rfl) rfl (pM 1 rfl (pL (pT ?_)))))));intro a S
  exact ⟨_, S.only ⟨rfl, rfl, rfl, rfl, rfl, rfl, trivial⟩, H, by first | exact ⟨fun _ => by omega, fun _ => rfl⟩ | exact ⟨fun h => (by cases h), fun h => (by omega)⟩ | exact ⟨fun h => (by have h' := eq_of_beq h; omega), fun h => (by rw [beq_iff_eq]; omega)⟩ | exact ⟨fun h => (by have h' := of_decide_eq_true h; omega), fun h => decide_eq_true (by omega)⟩⟩
 refine ⟨_, rfl, ?_⟩
 clear H hcon; have H := hH; clear hH
 rw [show fsec 2 = 4 from rfl] at H
 refine pM 3 rfl (pA fa71_0 rfl rfl rfl (pE H rfl rfl rfl (.there (.there .here)) (by first | decide | simp [Value.cells]) sz9 ?_));clear H;intro w H
 refine pF [.bool true, .int .i64 lt5, .int .i64 kt5, .bool false] H rfl rfl sz38 (.there .here) ?_;clear H;intro w H
 refine pL (pT (pS (pS (pG (pA fa38_0 rfl rfl rfl (pD H rfl rfl m1 rfl ag4 rfl (pL (pT (zt (pS ?_))))))))));intro a S
 refine d_startW (id := 7) (Lr := ((g, .cells #[.string s, .int .i64 (((tkQ 3 7 (ints s) q) : Nat) : Int), .int .i64 4, .int .i64 ((fr : Nat) : Int)] 73 (0, 0)) :: (gf, .cells #[.bool true, .int .i64 lt5, .int .i64 kt5, .bool false] 38 (0, 0)) :: L0)) [4] 5 (bA 5 0) H (fun _ H => H.sub ((.cons_cons _ ((.cons_cons _ ((.cons _ (.refl _)))))))) rfl rfl rfl (fun w H => ?_)
 revert a;refine qP 0 rfl (p_bld (ps := []) rfl (bld71_)) rfl (qR 1 (H.sub ((.cons_cons _ ((.cons_cons _ ((.cons _ (.refl _)))))))) rfl (r_loadn (m := 4) (vs := [.bool true, .int .i64 lt5, .int .i64 kt5, .bool false]) rfl m1 ag38 sz38 rfl rfl) rfl ?_);intro a S
 refine d_storeAllN (i := 2) (vs := [.string ⟨#[]⟩, .int .i64 0, .string ⟨#[]⟩]) (bA 5 7) S H rfl rfl rfl rfl sz71 (.there (.there .here)) rfl (fun v hv => by simp only [List.mem_cons, List.not_mem_nil, or_false] at hv; rcases hv with rfl | rfl | rfl <;> rfl) (fun _ H => H.sub ((.cons_cons _ ((.cons_cons _ ((.cons _ (.refl _)))))))) (wanted_none rfl) rfl (by kernel_rfl) rfl ?_; clear S a H; intro w a H S
 revert a;refine qM [3] rfl ?_;intro a S
 refine d_storeAll (i := 4) (vs := [.bool true, .int .i64 lt5, .int .i64 kt5, .bool false]) (bA 5 31) S H rfl rfl rfl rfl sz38 (.there .here) rfl (fun v hv => by simp only [List.mem_cons, List.not_mem_nil, or_false] at hv; rcases hv with rfl | rfl | rfl | rfl <;> rfl) (wanted_none rfl) rfl (by kernel_rfl) rfl ?_; clear S a H; intro w a H S
 revert a;refine qD (pT (pZ (pU ?_)))
 have hil := ints_len s
 have hR : (fieldQ (ints s) q 0) = ⟨none, some (flt (ints s) q (tkQ 3 7 (ints s) q) 0), (tkQ 3 7 (ints s) q), 4, 0⟩ := if_pos vt5
 intro a S
 rw [hR]
 exact r_retctc S rfl rfl rfl rfl (lva (cs := [.string ⟨#[]⟩, .int .i64 0, .string ⟨#[]⟩]) ag71 sz71 rfl H m2) (lva (cs := [.bool true, .int .i64 lt5, .int .i64 kt5, .bool false]) ag38 sz38 rfl H m1) ⟨_, _, _, _, _, rfl, (H.sub (.cons_cons _ ((.cons _ (.cons _ (.refl _))))))⟩
end jf
end Go.Proofs.YtbahngfpadjbhaaGreatDoor.dec
end
