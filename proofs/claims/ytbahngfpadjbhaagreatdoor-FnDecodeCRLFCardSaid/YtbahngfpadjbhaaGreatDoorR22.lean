/- Part of the proof that FnDecodeCRLF answers true at every text, in every world that its card's statement admits; no condition beyond those. -/
import Derived.Test.YtbahngfpadjbhaaGreatDoorR21
import Derived.Test.YtbahngfpadjbhaaGreatDoorR05
import Derived.Test.YtbahngfpadjbhaaGreatDoorR04
set_option linter.unusedVariables false
set_option linter.unusedSimpArgs false
section
namespace Go.Proofs.YtbahngfpadjbhaaGreatDoor.dec
open Go.Proofs.YtbahngfpadjbhaaGreatDoor.fx
open Go.RowKit Go.Proofs.HHW Go.Proofs.YtbahngfpadjbhaaGreatDoorW.PrintWords Go.Proofs.YtbahngfpadjbhaaGreatDoor.dt
namespace je
theorem name_ (wb w0 : World) (g : Nat) (s : ByteArray) (q : Nat) (fr : Nat) (L0 : dc.Bk) (hs : s.size ≤ 100000) (hq : q ≤ s.size) (hfr : fr ≤ 100000) (H : HH wb.heap.size wb w0 ((g, Obj.cells #[.string s, .int .i64 ((q : Nat) : Int), .int .i64 0, .int .i64 ((fr : Nat) : Int)] 73 (0, 0)) :: L0)) : Calls Tryz.prog 32 #[.pointer (some ⟨g, 0, none⟩)] w0 fun e w' => ∃ (nm : ByteArray) (sm : Bool) (l k : Int), e = .returned (.tuple #[.string nm, .bool sm, .agg #[.bool (nameA (ints s) q).2.2, .int .i64 l, .int .i64 k, .bool false]]) ∧ HH wb.heap.size wb w' ((g, Obj.cells #[.string s, .int .i64 (((nameA (ints s) q).1 : Nat) : Int), .int .i64 ((nameA (ints s) q).2.1), .int .i64 ((fr : Nat) : Int)] 73 (0, 0)) :: L0) := by
 refine c_enter (args := [.pointer (some ⟨g, 0, none⟩)]) (k := 43) Tryz.func32 rfl rfl rfl ?_
 refine pS (pG (pM 2 rfl ?_));intro a S
 refine l_alloc (cs := #[.bool false, .int .i64 0, .int .i64 0, .bool false]) S H rfl (fun w => al zv38) rfl rfl rfl ?_; clear S a H; intro gf w a H S
 revert a;refine pL (pT (pS (pS (pG (pM 2 rfl (pA fa73_2 rfl rfl rfl (pD H rfl rfl m1 rfl ag3 rfl (pP (p_neq rfl rfl) rfl (pL (pT (zf (pK (pT (pS (pG (pM 2 rfl (pA fa73_1 rfl rfl rfl (pD H rfl rfl m1 rfl ag3 rfl (pM 1 rfl (pL (pT (pS (pG (pM 1 rfl ?_))))))))))))))))))))))))
 replace H := HH.pull1 H
 have hil := ints_len s
 have qt4 := tkQ_le (k := 0) (s := 5) (X := (ints s)) (p := q) (by omega)
 have hcon := dec.jc.token_ _ _ _ _ _ _ _ _ hs 0 (by decide) (by omega) (by omega) H
 rw [show sOf 0 = 5 from rfl] at hcon
 refine pC Tryz.func68 hcon ?_
 rintro e w (⟨vt4, rfl, hH⟩ | ⟨vt4, lt4, kt4, rfl, hH⟩)
 ·
  refine ⟨_, rfl, ?_⟩
  clear H hcon; have H := hH; clear hH
  refine pM 4 rfl (pF [.bool false, .int .i64 0, .int .i64 0, .bool false] H rfl rfl sz38 (.there .here) ?_);clear H;intro w H
  refine pL (pT (pS (pS (pG (pA fa38_0 rfl rfl rfl (pD H rfl rfl m1 rfl ag4 rfl (pL (pT (zf (pK (pT (pS (pS (pG (pM 1 rfl (pP (p_seql rfl rfl) rfl ?_))))))))))))))));intro a S
  rw [sE] at S
  revert a;refine pM 1 rfl ?_;intro a S
  refine l_split (S.of 26 rfl) (fun bc8 => ?_) (fun bc8 => ?_)
  ·
   have c8 := of_decide_eq_true bc8
   revert a;refine pO bc8 rfl (pO bc8 rfl (pO bc8 rfl (pP (p_pick_t rfl bc8 rfl) rfl (pL (pT (zt (pS (pG (pM 2 rfl ?_)))))))))
   have hcon := dec.jc.fault_ _ _ _ _ _ _ _ _ hs (q) (by omega) (by omega) H
   refine pC Tryz.func69 hcon ?_
   rintro e w ⟨lf11, kf11, rfl, hH⟩
   refine ⟨_, rfl, ?_⟩
   clear H hcon; have H := hH; clear hH
   rw [show fsec 0 = 4 from rfl] at H
   refine pM 2 rfl (pF [.bool true, .int .i64 lf11, .int .i64 kf11, .bool false] H rfl rfl sz38 (.there .here) ?_);clear H;intro w H
   refine pL (pT (pZ (pU ?_)))
   have hR : nameA (ints s) q = ((tkQ 0 5 (ints s) q), 4, true) := (if_neg (tru_ne vt4)).trans ((if_pos (tk_empty.1 c8)))
   intro a S
   rw [hR]
   exact r_retttc S rfl rfl rfl rfl (lva (cs := [.bool true, .int .i64 lf11, .int .i64 kf11, .bool false]) ag38 sz38 rfl H m1) ⟨_, _, _, _, rfl, (H.sub (.cons_cons _ ((.cons _ (.refl _)))))⟩
  have c8 := of_decide_eq_false bc8
  revert a;refine pN bc8 (pP (p_move rfl) rfl (pN bc8 (pP (p_index rfl rfl (fun w => ix_string Tryz.underlying9 (by omega) (by omega))) rfl ?_)))
  obtain ⟨b13, hb13, lb13, nb13, gb13⟩ := bt_natI (strOfNums (tkT 0 5 (ints s) q)) (0 : Int) (0) (by first | rfl | omega)
  intro a S
  rw [hb13] at S
  revert a;refine pN bc8 (pP (p_eql rfl rfl) rfl (pP (p_pick_f rfl bc8 rfl) rfl (pL (pT (zc rfl (fun bc15 => ?_) (fun bc15 => ?_))))))
  ·
   have c15 := eq_of_beq bc15
   refine pS (pG (pM 2 rfl ?_))
   have hcon := dec.jc.fault_ _ _ _ _ _ _ _ _ hs (q) (by omega) (by omega) H
   refine pC Tryz.func69 hcon ?_
   rintro e w ⟨lf16, kf16, rfl, hH⟩
   refine ⟨_, rfl, ?_⟩
   clear H hcon; have H := hH; clear hH
   rw [show fsec 0 = 4 from rfl] at H
   refine pM 2 rfl (pF [.bool true, .int .i64 lf16, .int .i64 kf16, .bool false] H rfl rfl sz38 (.there .here) ?_);clear H;intro w H
   refine pL (pT (pZ (pU ?_)))
   have hf0 := tk_first (k := 0) (s := 5) (by decide) (ints_by' s) q
   have hR : nameA (ints s) q = ((tkQ 0 5 (ints s) q), 4, true) := (if_neg (tru_ne vt4)).trans ((if_neg (fun h => c8 (tk_empty.2 h))).trans ((if_pos (by omega))))
   intro a S
   rw [hR]
   exact r_retttc S rfl rfl rfl rfl (lva (cs := [.bool true, .int .i64 lf16, .int .i64 kf16, .bool false]) ag38 sz38 rfl H m1) ⟨_, _, _, _, rfl, (H.sub (.cons_cons _ ((.cons _ (.refl _)))))⟩
  have c15 := ne_of_beq_false bc15
  refine pK (pT (pS (pG (pM 2 rfl (pA fa73_2 rfl rfl rfl (pE H rfl rfl rfl .here (by first | decide | simp [Value.cells]) sz3 ?_))))));clear H;intro w H
  refine pL (pT (pS (pS (pG (pM 1 rfl ?_)))))
  have hil := ints_len s
  have ct18 := comma_le (X := (ints s)) (p := (tkQ 0 5 (ints s) q)) (by omega)
  have hcon := dec.jc.behind_ _ _ _ _ _ _ _ _ hs (by omega) (by omega) H
  refine pC Tryz.func70 hcon ?_
  rintro e w (⟨vt18, lt18, kt18, rfl, hH⟩ | ⟨vt18, rfl, hH⟩)
  ·
   refine ⟨_, rfl, ?_⟩
   clear H hcon; have H := hH; clear hH
   rw [show fsec 1 = 4 from rfl] at H
   refine pF [.bool true, .int .i64 lt18, .int .i64 kt18, .bool false] H rfl rfl sz38 (.there .here) ?_;clear H;intro w H
   refine pL (pT (pS (pG (pA fa38_0 rfl rfl rfl (pD H rfl rfl m1 rfl ag4 rfl (pL (pT (zt (pS ?_)))))))));intro a S
   refine d_start (id := 12) [3] 4 (bA 4 0) H rfl rfl rfl (fun w H => ?_)
   revert a;refine qM [1,2] rfl (qR 0 H rfl (r_loadn (m := 4) (vs := [.bool true, .int .i64 lt18, .int .i64 kt18, .bool false]) rfl m1 ag38 sz38 rfl rfl) rfl ?_);intro a S
   refine d_storeAll (i := 3) (vs := [.bool true, .int .i64 lt18, .int .i64 kt18, .bool false]) (bA 4 15) S H rfl rfl rfl rfl sz38 (.there .here) rfl (fun v hv => by simp only [List.mem_cons, List.not_mem_nil, or_false] at hv; rcases hv with rfl | rfl | rfl | rfl <;> rfl) (wanted_none rfl) rfl (by kernel_rfl) rfl ?_; clear S a H; intro w a H S
   revert a;refine qD (pT (pZ (pU ?_)))
   have hf0 := tk_first (k := 0) (s := 5) (by decide) (ints_by' s) q
   have hR : nameA (ints s) q = ((comma (ints s) (tkQ 0 5 (ints s) q)).1, 4, true) := (if_neg (tru_ne vt4)).trans ((if_neg (fun h => c8 (tk_empty.2 h))).trans ((if_neg (by omega)).trans ((if_pos vt18))))
   intro a S
   rw [hR]
   exact r_retttc S rfl rfl rfl rfl (lva (cs := [.bool true, .int .i64 lt18, .int .i64 kt18, .bool false]) ag38 sz38 rfl H m1) ⟨_, _, _, _, rfl, (H.sub (.cons_cons _ ((.cons _ (.refl _)))))⟩
  refine ⟨_, rfl, ?_⟩
  clear H hcon; have H := hH; clear hH
  refine pF [.bool false, .int .i64 0, .int .i64 0, .bool false] H rfl rfl sz38 (.there .here) ?_;clear H;intro w H
  refine pL (pT (pS (pG (pA fa38_0 rfl rfl rfl (pD H rfl rfl m1 rfl ag4 rfl (pL (pT (zf (pK (pT (pS ?_)))))))))));intro a S
  refine d_start (id := 13) [4] 5 (bA 5 0) H rfl rfl rfl (fun w H => ?_)
  revert a;refine qM [0,2,3] rfl (qR 1 H rfl (r_loadn (m := 4) (vs := [.bool false, .int .i64 0, .int .i64 0, .bool false]) rfl m1 ag38 sz38 rfl rfl) rfl ?_);intro a S
  refine d_storeAll (i := 4) (vs := [.bool false, .int .i64 0, .int .i64 0, .bool false]) (bA 5 31) S H rfl rfl rfl rfl sz38 (.there .here) rfl (fun v hv => by simp only [List.mem_cons, List.not_mem_nil, or_false] at hv; rcases hv with rfl | rfl | rfl | rfl <;> rfl) (wanted_none rfl) rfl (by kernel_rfl) rfl ?_; clear S a H; intro w a H S
  revert a;refine qD (pT (pZ ?_))
  have hf0 := tk_first (k := 0) (s := 5) (by decide) (ints_by' s) q
  have hR : nameA (ints s) q = ((comma (ints s) (tkQ 0 5 (ints s) q)).1, 1, false) := (if_neg (tru_ne vt4)).trans ((if_neg (fun h => c8 (tk_empty.2 h))).trans ((if_neg (by omega)).trans ((if_neg (by rw [vt18]; decide)))))
  intro a S
  rw [hR]
  exact r_retttc S rfl rfl rfl rfl (lva (cs := [.bool false, .int .i64 0, .int .i64 0, .bool false]) ag38 sz38 rfl H m1) ⟨_, _, _, _, rfl, (H.sub (.cons_cons _ ((.cons _ (.refl _)))))⟩
 refine ⟨_, rfl, ?_⟩
 clear H hcon; have H := hH; clear hH
 rw [show fsec 0 = 4 from rfl] at H
 refine pM 4 rfl (pF [.bool true, .int .i64 lt4, .int .i64 kt4, .bool false] H rfl rfl sz38 (.there .here) ?_);clear H;intro w H
 refine pL (pT (pS (pS (pG (pA fa38_0 rfl rfl rfl (pD H rfl rfl m1 rfl ag4 rfl (pL (pT (zt (pS ?_))))))))));intro a S
 refine d_start (id := 6) [3] 4 (bA 4 0) H rfl rfl rfl (fun w H => ?_)
 revert a;refine qM [1,2] rfl (qR 0 H rfl (r_loadn (m := 4) (vs := [.bool true, .int .i64 lt4, .int .i64 kt4, .bool false]) rfl m1 ag38 sz38 rfl rfl) rfl ?_);intro a S
 refine d_storeAll (i := 3) (vs := [.bool true, .int .i64 lt4, .int .i64 kt4, .bool false]) (bA 4 15) S H rfl rfl rfl rfl sz38 (.there .here) rfl (fun v hv => by simp only [List.mem_cons, List.not_mem_nil, or_false] at hv; rcases hv with rfl | rfl | rfl | rfl <;> rfl) (wanted_none rfl) rfl (by kernel_rfl) rfl ?_; clear S a H; intro w a H S
 revert a;refine qD (pT (pZ (pU ?_)))
 have hR : nameA (ints s) q = ((tkQ 0 5 (ints s) q), 4, true) := (if_pos vt4)
 intro a S
 rw [hR]
 exact r_retttc S rfl rfl rfl rfl (lva (cs := [.bool true, .int .i64 lt4, .int .i64 kt4, .bool false]) ag38 sz38 rfl H m1) ⟨_, _, _, _, rfl, (H.sub (.cons_cons _ ((.cons _ (.refl _)))))⟩
theorem tag2 (wb w0 : World) (g : Nat) (s : ByteArray) (q : Nat) (fr : Nat) (L0 : dc.Bk) (hs : s.size ≤ 100000) (hq : q ≤ s.size) (hfr : fr ≤ 100000) (H : HH wb.heap.size wb w0 ((g, Obj.cells #[.string s, .int .i64 ((q : Nat) : Int), .int .i64 2, .int .i64 ((fr : Nat) : Int)] 73 (0, 0)) :: L0)) : Calls Tryz.prog 33 #[.pointer (some ⟨g, 0, none⟩)] w0 fun e w' => ∃ (a b : ByteArray) (l k : Int), e = .returned (.tuple #[.agg #[.string a, .string b], .bool false, .agg #[.bool false, .int .i64 l, .int .i64 k, .bool false]]) ∧ HH wb.heap.size wb w' ((g, Obj.cells #[.string s, .int .i64 ((q : Nat) : Int), .int .i64 2, .int .i64 ((fr : Nat) : Int)] 73 (0, 0)) :: L0) := by
 refine c_enter (args := [.pointer (some ⟨g, 0, none⟩)]) (k := 105) Tryz.func33 rfl rfl rfl ?_
 refine pS (pG ?_);intro a S
 refine l_alloc (cs := #[.string ⟨#[]⟩, .string ⟨#[]⟩]) S H rfl (fun w => al zv66) rfl rfl rfl ?_; clear S a H; intro gp w a H S
 revert a;refine pM 1 rfl ?_;intro a S
 refine l_alloc (cs := #[.bool false, .int .i64 0, .int .i64 0, .bool false]) S H rfl (fun w => al zv38) rfl rfl rfl ?_; clear S a H; intro gf w a H S
 revert a;refine pL (pT (pS (pS (pG (pM 1 rfl ?_)))))
 replace H := HH.pull2 H
 have hcon := dec.jc.skip_ _ _ _ _ _ _ _ _ hs (1) (by first | omega | decide) H
 refine pC Tryz.func28 hcon ?_
 rintro e w ⟨rfl, hH⟩
 refine ⟨_, rfl, ?_⟩
 clear H hcon; have H := hH; clear hH
 refine pF [.bool false, .int .i64 0, .int .i64 0, .bool false] H rfl rfl sz38 (.there .here) ?_;clear H;intro w H
 refine pL (pT (pS (pG (pA fa38_0 rfl rfl rfl (pD H rfl rfl m1 rfl ag4 rfl (pM 1 rfl (pN rfl (pP (p_move rfl) rfl (pN rfl (pP (p_nilCheck rfl) rfl (pN rfl (pA fa73_2 rfl rfl rfl (pN rfl (pD H rfl rfl m0 rfl ag3 rfl (pN rfl (pP (p_neq rfl rfl) rfl (pP (p_pick_f rfl rfl rfl) rfl (pL (pT (zt (pS ?_)))))))))))))))))))));intro a S
 refine d_start (id := 3) [4] 5 (bA 5 0) H rfl rfl rfl (fun w H => ?_)
 revert a;refine qR 0 H rfl (r_loadn (m := 2) (vs := [.string ⟨#[]⟩, .string ⟨#[]⟩]) rfl m2 ag66 sz66 rfl rfl) rfl (qR 1 H rfl (r_loadn (m := 4) (vs := [.bool false, .int .i64 0, .int .i64 0, .bool false]) rfl m1 ag38 sz38 rfl rfl) rfl ?_);intro a S
 refine d_storeAllN (i := 2) (vs := [.string ⟨#[]⟩, .string ⟨#[]⟩]) (bA 5 7) S H rfl rfl rfl rfl sz66 (.there (.there .here)) rfl (fun v hv => by simp only [List.mem_cons, List.not_mem_nil, or_false] at hv; rcases hv with rfl | rfl <;> rfl) (fun _ H => H) (wanted_none rfl) rfl (by kernel_rfl) rfl ?_; clear S a H; intro w a H S
 revert a;refine qM [3] rfl ?_;intro a S
 refine d_storeAll (i := 4) (vs := [.bool false, .int .i64 0, .int .i64 0, .bool false]) (bA 5 31) S H rfl rfl rfl rfl sz38 (.there .here) rfl (fun v hv => by simp only [List.mem_cons, List.not_mem_nil, or_false] at hv; rcases hv with rfl | rfl | rfl | rfl <;> rfl) (wanted_none rfl) rfl (by kernel_rfl) rfl ?_; clear S a H; intro w a H S
 revert a;refine qD (pT (pZ (pU ?_)));intro a S
 exact r_retctc S rfl rfl rfl rfl (lva (cs := [.string ⟨#[]⟩, .string ⟨#[]⟩]) ag66 sz66 rfl H m2) (lva (cs := [.bool false, .int .i64 0, .int .i64 0, .bool false]) ag38 sz38 rfl H m1) ⟨_, _, _, _, rfl, (H.sub (.cons_cons _ ((.cons _ (.cons _ (.refl _))))))⟩
theorem tag1 (wb w0 : World) (g : Nat) (s : ByteArray) (q : Nat) (fr : Nat) (L0 : dc.Bk) (hs : s.size ≤ 100000) (hq : q ≤ s.size) (hfr : fr ≤ 100000) (H : HH wb.heap.size wb w0 ((g, Obj.cells #[.string s, .int .i64 ((q : Nat) : Int), .int .i64 1, .int .i64 ((fr : Nat) : Int)] 73 (0, 0)) :: L0)) : Calls Tryz.prog 33 #[.pointer (some ⟨g, 0, none⟩)] w0 fun e w' => ∃ (a b : ByteArray) (l k : Int), e = .returned (.tuple #[.agg #[.string a, .string b], .bool (tagP (ints s) q 0).r.isSome, .agg #[.bool (tagP (ints s) q 0).f.isSome, .int .i64 l, .int .i64 k, .bool false]]) ∧ HH wb.heap.size wb w' ((g, Obj.cells #[.string s, .int .i64 (((tagP (ints s) q 0).p : Nat) : Int), .int .i64 ((tagP (ints s) q 0).sec), .int .i64 ((fr : Nat) : Int)] 73 (0, 0)) :: L0) := by
 refine c_enter (args := [.pointer (some ⟨g, 0, none⟩)]) (k := 105) Tryz.func33 rfl rfl rfl ?_
 refine pS (pG ?_);intro a S
 refine l_alloc (cs := #[.string ⟨#[]⟩, .string ⟨#[]⟩]) S H rfl (fun w => al zv66) rfl rfl rfl ?_; clear S a H; intro gp w a H S
 revert a;refine pM 1 rfl ?_;intro a S
 refine l_alloc (cs := #[.bool false, .int .i64 0, .int .i64 0, .bool false]) S H rfl (fun w => al zv38) rfl rfl rfl ?_; clear S a H; intro gf w a H S
 revert a;refine pL (pT (pS (pS (pG (pM 1 rfl ?_)))))
 replace H := HH.pull2 H
 have hcon := dec.jc.skip_ _ _ _ _ _ _ _ _ hs (1) (by first | omega | decide) H
 refine pC Tryz.func28 hcon ?_
 rintro e w ⟨rfl, hH⟩
 refine ⟨_, rfl, ?_⟩
 clear H hcon; have H := hH; clear hH
 refine pF [.bool false, .int .i64 0, .int .i64 0, .bool false] H rfl rfl sz38 (.there .here) ?_;clear H;intro w H
 refine pL (pT (pS (pG (pA fa38_0 rfl rfl rfl (pD H rfl rfl m1 rfl ag4 rfl (pM 1 rfl (pN rfl (pP (p_move rfl) rfl (pN rfl (pP (p_nilCheck rfl) rfl (pN rfl (pA fa73_2 rfl rfl rfl (pN rfl (pD H rfl rfl m0 rfl ag3 rfl (pN rfl (pP (p_neq rfl rfl) rfl (pP (p_pick_f rfl rfl rfl) rfl (pL (pT (zf (pK (pT (pS (pS (pG (pM 1 rfl ?_))))))))))))))))))))))))))
 have hcon := dec.jb.next_ _ _ _ _ _ _ _ _ hs 0 (by decide) H
 refine pC Tryz.func65 hcon ?_
 rintro e w ⟨n5, rfl, hn5, hH⟩
 refine ⟨_, rfl, ?_⟩
 clear H hcon; have H := hH; clear hH
 refine pL (pT (zc rfl (fun bc7 => ?_) (fun bc7 => ?_)))
 ·
  have c7 := bc7
  refine pS (pG (pM 1 rfl ?_))
  have hcon := dec.jb.run_ _ _ _ _ _ _ _ _ hs 0 (by decide) (by omega) H
  refine pC Tryz.func29 hcon ?_
  rintro e w ⟨m8, rfl, hm8, hH⟩
  refine ⟨_, rfl, ?_⟩
  clear H hcon; have H := hH; clear hH
  have gm8 := run_ge 0 (ints s) q
  have lm8 := run_le (k := 0) (X := ints s) (p := q) (by rw [ints_len]; omega)
  have hsl := ints_len s
  refine pL (pT (pS (pG (pM 2 rfl (pA fa73_2 rfl rfl rfl (pE H rfl rfl rfl .here (by first | decide | simp [Value.cells]) sz3 ?_))))));clear H;intro w H
  refine pL (pT (pS ?_));intro a S
  refine d_start (id := 7) [4] 5 (bA 5 0) H rfl rfl rfl (fun w H => ?_)
  revert a;refine qR 0 H rfl (r_loadn (m := 2) (vs := [.string ⟨#[]⟩, .string ⟨#[]⟩]) rfl m2 ag66 sz66 rfl rfl) rfl (qR 1 H rfl (r_loadn (m := 4) (vs := [.bool false, .int .i64 0, .int .i64 0, .bool false]) rfl m1 ag38 sz38 rfl rfl) rfl ?_);intro a S
  refine d_storeAllN (i := 2) (vs := [.string ⟨#[]⟩, .string ⟨#[]⟩]) (bA 5 7) S H rfl rfl rfl rfl sz66 (.there (.there .here)) rfl (fun v hv => by simp only [List.mem_cons, List.not_mem_nil, or_false] at hv; rcases hv with rfl | rfl <;> rfl) (fun _ H => H) (wanted_none rfl) rfl (by kernel_rfl) rfl ?_; clear S a H; intro w a H S
  revert a;refine qM [3] rfl ?_;intro a S
  refine d_storeAll (i := 4) (vs := [.bool false, .int .i64 0, .int .i64 0, .bool false]) (bA 5 31) S H rfl rfl rfl rfl sz38 (.there .here) rfl (fun v hv => by simp only [List.mem_cons, List.not_mem_nil, or_false] at hv; rcases hv with rfl | rfl | rfl | rfl <;> rfl) (wanted_none rfl) rfl (by kernel_rfl) rfl ?_; clear S a H; intro w a H S
  revert a;refine qD (pT (pZ (pU ?_)))
  have h32 := hn5.1 bc7
  have hil := ints_len s
  have hR : tagP (ints s) q 0 = ⟨none, none, run 0 (ints s) q, 2, 0⟩ := (if_pos ⟨by rw [ints_len]; exact h32.1, (sIn0 (at_by (ints_by' s) q).1).1 h32.2⟩)
  intro a S
  rw [hR]
  exact r_retctc S rfl rfl rfl rfl (lva (cs := [.string ⟨#[]⟩, .string ⟨#[]⟩]) ag66 sz66 rfl H m2) (lva (cs := [.bool false, .int .i64 0, .int .i64 0, .bool false]) ag38 sz38 rfl H m1) ⟨_, _, _, _, rfl, (H.sub (.cons_cons _ ((.cons _ (.cons _ (.refl _))))))⟩
 have c7 := bc7
 refine pK (pT (pS (pG (pM 2 rfl (pA fa73_1 rfl rfl rfl (pD H rfl rfl m0 rfl ag3 rfl (pM 1 rfl (pL (pT (pS (pG (pM 1 rfl ?_))))))))))))
 have hil := ints_len s
 have qt10 := tkQ_le (k := 1) (s := 2) (X := (ints s)) (p := q) (by omega)
 have hcon := dec.jc.token_ _ _ _ _ _ _ _ _ hs 1 (by decide) (by omega) (by omega) H
 rw [show sOf 1 = 2 from rfl] at hcon
 refine pC Tryz.func68 hcon ?_
 rintro e w (⟨vt10, rfl, hH⟩ | ⟨vt10, lt10, kt10, rfl, hH⟩)
 ·
  refine ⟨_, rfl, ?_⟩
  clear H hcon; have H := hH; clear hH
  refine pM 4 rfl (pF [.bool false, .int .i64 0, .int .i64 0, .bool false] H rfl rfl sz38 (.there .here) ?_);clear H;intro w H
  refine pL (pT (pS (pS (pG (pA fa38_0 rfl rfl rfl (pD H rfl rfl m1 rfl ag4 rfl (pL (pT (zf (pK (pT (pS (pS ?_)))))))))))));intro a S
  refine d_start (id := 12) [] 18 (bA 18 0) H rfl rfl rfl (fun w H => ?_)
  revert a;refine qM [0] rfl (qP 1 rfl (p_seql rfl rfl) rfl ?_);intro a S
  rw [sE] at S
  revert a;refine qM [2] rfl ?_;intro a S
  refine d_split (S.of 45 rfl) (fun bc14 => ?_) (fun bc14 => ?_)
  ·
   have c14 := of_decide_eq_true bc14
   revert a;refine qO 3 rfl bc14 rfl (qO 4 rfl bc14 rfl (qP 5 rfl (p_pick_t rfl bc14 rfl) rfl (qM [6] rfl (qO 7 rfl rfl rfl (qO 8 rfl rfl rfl (qO 9 rfl rfl rfl (qO 10 rfl rfl rfl (qO 11 rfl rfl rfl (qO 12 rfl rfl rfl (qO 13 rfl rfl rfl (qO 14 rfl rfl rfl (qO 15 rfl rfl rfl (qO 16 rfl rfl rfl (qP 17 rfl (p_pick_t rfl rfl rfl) rfl (qD (pT (zt (pS ?_))))))))))))))))));intro a S
   refine d_startW (id := 13) (Lr := ((gf, .cells #[.bool false, .int .i64 0, .int .i64 0, .bool false] 38 (0, 0)) :: (gp, .cells #[.string ⟨#[]⟩, .string ⟨#[]⟩] 66 (0, 0)) :: L0)) [4, 6] 7 (bA 7 0) H (fun _ H => H.sub ((.cons _ ((.cons_cons _ ((.cons_cons _ (.refl _)))))))) rfl rfl rfl (fun w H => ?_)
   revert a;refine qM [1,2] rfl (qR 0 (H.sub ((.cons _ ((.cons_cons _ ((.cons_cons _ (.refl _)))))))) rfl (r_loadn (m := 2) (vs := [.string ⟨#[]⟩, .string ⟨#[]⟩]) rfl m1 ag66 sz66 rfl rfl) rfl ?_)
   have hcon := dec.jc.fault_ _ _ _ _ _ _ _ _ hs (q) (by omega) (by omega) H
   intro a S
   refine d_callN (i := 3) (bA 7 15) S rfl rfl rfl Tryz.func69 rfl rfl hcon (wanted_none rfl) rfl rfl (by kernel_rfl) rfl ?_
   rintro e w ⟨lf18, kf18, rfl, hH⟩
   refine ⟨_, rfl, hH.sub ((.cons _ ((.cons_cons _ ((.cons_cons _ (.refl _))))))), ?_⟩;clear S a
   clear H hcon; have H := hH; clear hH
   rw [show fsec 1 = 4 from rfl] at H
   intro a S
   refine d_storeAll (i := 4) (vs := [.string ⟨#[]⟩, .string ⟨#[]⟩]) (bA 7 31) S H rfl rfl rfl rfl sz66 (.there (.there .here)) rfl (fun v hv => by simp only [List.mem_cons, List.not_mem_nil, or_false] at hv; rcases hv with rfl | rfl <;> rfl) (wanted_none rfl) rfl (by kernel_rfl) rfl ?_; clear S a H; intro w a H S
   revert a;refine qM [5] rfl ?_;intro a S
   refine d_storeAll (i := 6) (vs := [.bool true, .int .i64 lf18, .int .i64 kf18, .bool false]) (bA 7 127) S H rfl rfl rfl rfl sz38 (.there .here) rfl (fun v hv => by simp only [List.mem_cons, List.not_mem_nil, or_false] at hv; rcases hv with rfl | rfl | rfl | rfl <;> rfl) (wanted_none rfl) rfl (by kernel_rfl) rfl ?_; clear S a H; intro w a H S
   revert a;refine qD (pT (pZ (pU ?_)))
   have hil := ints_len s
   have hR : tagP (ints s) q 0 = ⟨none, some (flt (ints s) q (tkQ 1 2 (ints s) q) 0), (tkQ 1 2 (ints s) q), 4, 0⟩ := (if_neg (fun h => absurd (hn5.2 ⟨by rw [← ints_len]; exact h.1, (sIn0 (at_by (ints_by' s) q).1).2 h.2⟩) (by rw [bc7]; decide))).trans ((if_neg (tru_ne vt10)).trans ((if_pos (.inl (tk_empty.1 c14)))))
   intro a S
   rw [hR]
   exact r_retctc S rfl rfl rfl rfl (lva (cs := [.string ⟨#[]⟩, .string ⟨#[]⟩]) ag66 sz66 rfl H m2) (lva (cs := [.bool true, .int .i64 lf18, .int .i64 kf18, .bool false]) ag38 sz38 rfl H m1) ⟨_, _, _, _, rfl, (H.sub (.cons_cons _ ((.cons _ (.cons _ (.refl _))))))⟩
  have c14 := of_decide_eq_false bc14
  revert a;refine qW 3 rfl (p_move rfl) bc14 rfl ?_
  have hcon := dec.jb.done_ _ _ _ _ _ _ _ _ hs H
  intro a S
  refine d_call (i := 4) (bA 18 31) S rfl rfl rfl Tryz.func31 rfl rfl hcon (wanted_on S rfl rfl rfl rfl bc14) rfl rfl (by kernel_rfl) rfl ?_
  rintro e w ⟨rfl, hH⟩
  refine ⟨_, rfl, hH, ?_⟩;clear S a
  clear H hcon; have H := hH; clear hH
  refine qP 5 rfl (p_pick_f rfl bc14 rfl) rfl (qM [6] rfl ?_);intro a S
  refine d_split (S.of 49 rfl) (fun bc21 => ?_) (fun bc21 => ?_)
  ·
   have c21 := of_decide_eq_true bc21
   revert a;refine qO 7 rfl bc21 rfl (qO 8 rfl bc21 rfl (qO 9 rfl bc21 rfl (qO 10 rfl bc21 rfl (qO 11 rfl bc21 rfl (qO 12 rfl bc21 rfl (qO 13 rfl bc21 rfl (qO 14 rfl bc21 rfl (qO 15 rfl bc21 rfl (qO 16 rfl bc21 rfl (qP 17 rfl (p_pick_t rfl bc21 rfl) rfl (qD (pT (zt (pS ?_))))))))))))));intro a S
   refine d_startW (id := 13) (Lr := ((gf, .cells #[.bool false, .int .i64 0, .int .i64 0, .bool false] 38 (0, 0)) :: (gp, .cells #[.string ⟨#[]⟩, .string ⟨#[]⟩] 66 (0, 0)) :: L0)) [4, 6] 7 (bA 7 0) H (fun _ H => H.sub ((.cons _ ((.cons_cons _ ((.cons_cons _ (.refl _)))))))) rfl rfl rfl (fun w H => ?_)
   revert a;refine qM [1,2] rfl (qR 0 (H.sub ((.cons _ ((.cons_cons _ ((.cons_cons _ (.refl _)))))))) rfl (r_loadn (m := 2) (vs := [.string ⟨#[]⟩, .string ⟨#[]⟩]) rfl m1 ag66 sz66 rfl rfl) rfl ?_)
   have hcon := dec.jc.fault_ _ _ _ _ _ _ _ _ hs (q) (by omega) (by omega) H
   intro a S
   refine d_callN (i := 3) (bA 7 15) S rfl rfl rfl Tryz.func69 rfl rfl hcon (wanted_none rfl) rfl rfl (by kernel_rfl) rfl ?_
   rintro e w ⟨lf24, kf24, rfl, hH⟩
   refine ⟨_, rfl, hH.sub ((.cons _ ((.cons_cons _ ((.cons_cons _ (.refl _))))))), ?_⟩;clear S a
   clear H hcon; have H := hH; clear hH
   rw [show fsec 1 = 4 from rfl] at H
   intro a S
   refine d_storeAll (i := 4) (vs := [.string ⟨#[]⟩, .string ⟨#[]⟩]) (bA 7 31) S H rfl rfl rfl rfl sz66 (.there (.there .here)) rfl (fun v hv => by simp only [List.mem_cons, List.not_mem_nil, or_false] at hv; rcases hv with rfl | rfl <;> rfl) (wanted_none rfl) rfl (by kernel_rfl) rfl ?_; clear S a H; intro w a H S
   revert a;refine qM [5] rfl ?_;intro a S
   refine d_storeAll (i := 6) (vs := [.bool true, .int .i64 lf24, .int .i64 kf24, .bool false]) (bA 7 127) S H rfl rfl rfl rfl sz38 (.there .here) rfl (fun v hv => by simp only [List.mem_cons, List.not_mem_nil, or_false] at hv; rcases hv with rfl | rfl | rfl | rfl <;> rfl) (wanted_none rfl) rfl (by kernel_rfl) rfl ?_; clear S a H; intro w a H S
   revert a;refine qD (pT (pZ (pU ?_)))
   have hil := ints_len s
   have hR : tagP (ints s) q 0 = ⟨none, some (flt (ints s) q (tkQ 1 2 (ints s) q) 0), (tkQ 1 2 (ints s) q), 4, 0⟩ := (if_neg (fun h => absurd (hn5.2 ⟨by rw [← ints_len]; exact h.1, (sIn0 (at_by (ints_by' s) q).1).2 h.2⟩) (by rw [bc7]; decide))).trans ((if_neg (tru_ne vt10)).trans ((if_pos (.inr (.inl (by omega))))))
   intro a S
   rw [hR]
   exact r_retctc S rfl rfl rfl rfl (lva (cs := [.string ⟨#[]⟩, .string ⟨#[]⟩]) ag66 sz66 rfl H m2) (lva (cs := [.bool true, .int .i64 lf24, .int .i64 kf24, .bool false]) ag38 sz38 rfl H m1) ⟨_, _, _, _, rfl, (H.sub (.cons_cons _ ((.cons _ (.cons _ (.refl _))))))⟩
  have c21 := of_decide_eq_false bc21
  revert a;refine qW 7 rfl (p_move rfl) bc21 rfl (qW 8 rfl (p_nilCheck rfl) bc21 rfl (qX 9 fa73_0 rfl rfl rfl bc21 rfl (qF 10 H rfl rfl rfl m0 rfl ag9 bc21 rfl (qW 11 rfl (p_move rfl) bc21 rfl (qW 12 rfl (p_nilCheck rfl) bc21 rfl (qX 13 fa73_1 rfl rfl rfl bc21 rfl (qF 14 H rfl rfl rfl m0 rfl ag3 bc21 rfl (qW 15 rfl (p_index rfl rfl (fun w => ix_string Tryz.underlying9 (by omega) (by omega))) bc21 rfl ?_))))))))
  obtain ⟨b26, hb26, lb26, nb26, gb26⟩ := bt_natI s ((((tkQ 1 2 (ints s) q) : Nat) : Int)) ((tkQ 1 2 (ints s) q)) (by first | rfl | omega)
  intro a S
  rw [hb26] at S
  revert a;refine qW 16 rfl (p_neq rfl rfl) bc21 rfl (qP 17 rfl (p_pick_f rfl bc21 rfl) rfl (qD (pT (zc rfl (fun bc28 => ?_) (fun bc28 => ?_)))))
  ·
   have c28 := bne_iff_ne.1 bc28
   refine pS ?_;intro a S
   refine d_startW (id := 13) (Lr := ((gf, .cells #[.bool false, .int .i64 0, .int .i64 0, .bool false] 38 (0, 0)) :: (gp, .cells #[.string ⟨#[]⟩, .string ⟨#[]⟩] 66 (0, 0)) :: L0)) [4, 6] 7 (bA 7 0) H (fun _ H => H.sub ((.cons _ ((.cons_cons _ ((.cons_cons _ (.refl _)))))))) rfl rfl rfl (fun w H => ?_)
   revert a;refine qM [1,2] rfl (qR 0 (H.sub ((.cons _ ((.cons_cons _ ((.cons_cons _ (.refl _)))))))) rfl (r_loadn (m := 2) (vs := [.string ⟨#[]⟩, .string ⟨#[]⟩]) rfl m1 ag66 sz66 rfl rfl) rfl ?_)
   have hcon := dec.jc.fault_ _ _ _ _ _ _ _ _ hs (q) (by omega) (by omega) H
   intro a S
   refine d_callN (i := 3) (bA 7 15) S rfl rfl rfl Tryz.func69 rfl rfl hcon (wanted_none rfl) rfl rfl (by kernel_rfl) rfl ?_
   rintro e w ⟨lf29, kf29, rfl, hH⟩
   refine ⟨_, rfl, hH.sub ((.cons _ ((.cons_cons _ ((.cons_cons _ (.refl _))))))), ?_⟩;clear S a
   clear H hcon; have H := hH; clear hH
   rw [show fsec 1 = 4 from rfl] at H
   intro a S
   refine d_storeAll (i := 4) (vs := [.string ⟨#[]⟩, .string ⟨#[]⟩]) (bA 7 31) S H rfl rfl rfl rfl sz66 (.there (.there .here)) rfl (fun v hv => by simp only [List.mem_cons, List.not_mem_nil, or_false] at hv; rcases hv with rfl | rfl <;> rfl) (wanted_none rfl) rfl (by kernel_rfl) rfl ?_; clear S a H; intro w a H S
   revert a;refine qM [5] rfl ?_;intro a S
   refine d_storeAll (i := 6) (vs := [.bool true, .int .i64 lf29, .int .i64 kf29, .bool false]) (bA 7 127) S H rfl rfl rfl rfl sz38 (.there .here) rfl (fun v hv => by simp only [List.mem_cons, List.not_mem_nil, or_false] at hv; rcases hv with rfl | rfl | rfl | rfl <;> rfl) (wanted_none rfl) rfl (by kernel_rfl) rfl ?_; clear S a H; intro w a H S
   revert a;refine qD (pT (pZ (pU ?_)))
   have hil := ints_len s
   have hR : tagP (ints s) q 0 = ⟨none, some (flt (ints s) q (tkQ 1 2 (ints s) q) 0), (tkQ 1 2 (ints s) q), 4, 0⟩ := (if_neg (fun h => absurd (hn5.2 ⟨by rw [← ints_len]; exact h.1, (sIn0 (at_by (ints_by' s) q).1).2 h.2⟩) (by rw [bc7]; decide))).trans ((if_neg (tru_ne vt10)).trans ((if_pos (.inr (.inr (by omega))))))
   intro a S
   rw [hR]
   exact r_retctc S rfl rfl rfl rfl (lva (cs := [.string ⟨#[]⟩, .string ⟨#[]⟩]) ag66 sz66 rfl H m2) (lva (cs := [.bool true, .int .i64 lf29, .int .i64 kf29, .bool false]) ag38 sz38 rfl H m1) ⟨_, _, _, _, rfl, (H.sub (.cons_cons _ ((.cons _ (.cons _ (.refl _))))))⟩
  have c28 := bne_eq_false_iff_eq.1 bc28
  refine pK (pT (pS (pG (pM 2 rfl (pA fa73_1 rfl rfl rfl (pD H rfl rfl m0 rfl ag3 rfl (pP (p_add rfl rfl (nat_add (x := (tkQ 1 2 (ints s) q)) (y := 1) (by omega))) rfl (pM 1 rfl (pA fa73_1 rfl rfl rfl (pE H rfl rfl rfl .here (by first | decide | simp [Value.cells]) sz3 ?_))))))))));clear H;intro w H
  refine pL (pT (pS (pG (pM 2 rfl (pA fa73_1 rfl rfl rfl (pD H rfl rfl m0 rfl ag3 rfl (pM 1 rfl (pL (pT (pS (pG (pM 1 rfl ?_))))))))))))
  have hil := ints_len s
  have qt31 := tkQ_le (k := 2) (s := 6) (X := (ints s)) (p := ((tkQ 1 2 (ints s) q) + 1)) (by omega)
  have hcon := dec.jc.token_ _ _ _ _ _ _ _ _ hs 2 (by decide) (by omega) (by omega) H
  rw [show sOf 2 = 6 from rfl] at hcon
  refine pC Tryz.func68 hcon ?_
  rintro e w (⟨vt31, rfl, hH⟩ | ⟨vt31, lt31, kt31, rfl, hH⟩)
  ·
   refine ⟨_, rfl, ?_⟩
   clear H hcon; have H := hH; clear hH
   refine pM 4 rfl (pF [.bool false, .int .i64 0, .int .i64 0, .bool false] H rfl rfl sz38 (.there .here) ?_);clear H;intro w H
   refine pL (pT (pS (pS (pG (pA fa38_0 rfl rfl rfl (pD H rfl rfl m1 rfl ag4 rfl (pL (pT (zf (pK (pT (pS (pS (pG (pM 1 rfl (pP (p_seql rfl rfl) rfl ?_))))))))))))))));intro a S
   rw [sE] at S
   revert a;refine pL (pT (zc rfl (fun bc35 => ?_) (fun bc35 => ?_)))
   ·
    have c35 := of_decide_eq_true bc35
    refine pS ?_;intro a S
    refine d_startW (id := 20) (Lr := ((gf, .cells #[.bool false, .int .i64 0, .int .i64 0, .bool false] 38 (0, 0)) :: (gp, .cells #[.string ⟨#[]⟩, .string ⟨#[]⟩] 66 (0, 0)) :: L0)) [4, 6] 7 (bA 7 0) H (fun _ H => H.sub ((.cons _ ((.cons_cons _ ((.cons_cons _ (.refl _)))))))) rfl rfl rfl (fun w H => ?_)
    revert a;refine qM [1,2] rfl (qR 0 (H.sub ((.cons _ ((.cons_cons _ ((.cons_cons _ (.refl _)))))))) rfl (r_loadn (m := 2) (vs := [.string ⟨#[]⟩, .string ⟨#[]⟩]) rfl m1 ag66 sz66 rfl rfl) rfl ?_)
    have hcon := dec.jc.fault_ _ _ _ _ _ _ _ _ hs (((tkQ 1 2 (ints s) q) + 1)) (by omega) (by omega) H
    intro a S
    refine d_callN (i := 3) (bA 7 15) S rfl rfl rfl Tryz.func69 rfl rfl hcon (wanted_none rfl) rfl rfl (by kernel_rfl) rfl ?_
    rintro e w ⟨lf36, kf36, rfl, hH⟩
    refine ⟨_, rfl, hH.sub ((.cons _ ((.cons_cons _ ((.cons_cons _ (.refl _))))))), ?_⟩;clear S a
    clear H hcon; have H := hH; clear hH
    rw [show fsec 1 = 4 from rfl] at H
    intro a S
    refine d_storeAll (i := 4) (vs := [.string ⟨#[]⟩, .string ⟨#[]⟩]) (bA 7 31) S H rfl rfl rfl rfl sz66 (.there (.there .here)) rfl (fun v hv => by simp only [List.mem_cons, List.not_mem_nil, or_false] at hv; rcases hv with rfl | rfl <;> rfl) (wanted_none rfl) rfl (by kernel_rfl) rfl ?_; clear S a H; intro w a H S
    revert a;refine qM [5] rfl ?_;intro a S
    refine d_storeAll (i := 6) (vs := [.bool true, .int .i64 lf36, .int .i64 kf36, .bool false]) (bA 7 127) S H rfl rfl rfl rfl sz38 (.there .here) rfl (fun v hv => by simp only [List.mem_cons, List.not_mem_nil, or_false] at hv; rcases hv with rfl | rfl | rfl | rfl <;> rfl) (wanted_none rfl) rfl (by kernel_rfl) rfl ?_; clear S a H; intro w a H S
    revert a;refine qD (pT (pZ (pU ?_)))
    have hil := ints_len s
    have hR : tagP (ints s) q 0 = ⟨none, some (flt (ints s) ((tkQ 1 2 (ints s) q) + 1) (tkQ 2 6 (ints s) ((tkQ 1 2 (ints s) q) + 1)) 0), (tkQ 2 6 (ints s) ((tkQ 1 2 (ints s) q) + 1)), 4, 0⟩ := (if_neg (fun h => absurd (hn5.2 ⟨by rw [← ints_len]; exact h.1, (sIn0 (at_by (ints_by' s) q).1).2 h.2⟩) (by rw [bc7]; decide))).trans ((if_neg (tru_ne vt10)).trans ((if_neg (fun h => by
     rcases h with h | h | h
     ·
      exact c14 (tk_empty.2 h)
     ·
      omega
     ·
      omega)).trans ((if_neg (tru_ne vt31)).trans ((if_pos (tk_empty.1 c35))))))
    intro a S
    rw [hR]
    exact r_retctc S rfl rfl rfl rfl (lva (cs := [.string ⟨#[]⟩, .string ⟨#[]⟩]) ag66 sz66 rfl H m2) (lva (cs := [.bool true, .int .i64 lf36, .int .i64 kf36, .bool false]) ag38 sz38 rfl H m1) ⟨_, _, _, _, rfl, (H.sub (.cons_cons _ ((.cons _ (.cons _ (.refl _))))))⟩
   have c35 := of_decide_eq_false bc35
   refine pK (pT (pS (pS (pG (pM 1 rfl ?_)))))
   have hcon := dec.jb.done_ _ _ _ _ _ _ _ _ hs H
   refine pC Tryz.func31 hcon ?_
   rintro e w ⟨rfl, hH⟩
   refine ⟨_, rfl, ?_⟩
   clear H hcon; have H := hH; clear hH
   refine pL (pT (zc rfl (fun bc39 => ?_) (fun bc39 => ?_)))
   ·
    have c39 := of_decide_eq_true bc39
    refine pG (pM 2 rfl (pA fa73_2 rfl rfl rfl (pE H rfl rfl rfl .here (by first | decide | simp [Value.cells]) sz3 ?_)));clear H;intro w H
    refine pL (pT (pS ?_));intro a S
    refine d_startW (id := 26) (Lr := ((g, .cells #[.string s, .int .i64 (((tkQ 2 6 (ints s) ((tkQ 1 2 (ints s) q) + 1)) : Nat) : Int), .int .i64 2, .int .i64 ((fr : Nat) : Int)] 73 (0, 0)) :: (gf, .cells #[.bool false, .int .i64 0, .int .i64 0, .bool false] 38 (0, 0)) :: L0)) [6] 7 (bA 7 0) H (fun _ H => H.sub ((.cons_cons _ ((.cons_cons _ ((.cons _ (.refl _)))))))) rfl rfl rfl (fun w H => ?_)
    revert a;refine qM [0,1] rfl (qP 2 rfl (p_bld (ps := [(0, .tmp 102), (1, .tmp 103)]) rfl (bld66_0_1 _ _)) rfl (qR 3 (H.sub ((.cons_cons _ ((.cons_cons _ ((.cons _ (.refl _)))))))) rfl (r_loadn (m := 4) (vs := [.bool false, .int .i64 0, .int .i64 0, .bool false]) rfl m1 ag38 sz38 rfl rfl) rfl ?_));intro a S
    refine d_storeAllN (i := 4) (vs := [.string (strOfNums (tkT 1 2 (ints s) q)), .string (strOfNums (tkT 2 6 (ints s) ((tkQ 1 2 (ints s) q) + 1)))]) (bA 7 31) S H rfl rfl rfl rfl sz66 (.there (.there .here)) rfl (fun v hv => by simp only [List.mem_cons, List.not_mem_nil, or_false] at hv; rcases hv with rfl | rfl <;> rfl) (fun _ H => H.sub ((.cons_cons _ ((.cons_cons _ ((.cons _ (.refl _)))))))) (wanted_none rfl) rfl (by kernel_rfl) rfl ?_; clear S a H; intro w a H S
    revert a;refine qM [5] rfl ?_;intro a S
    refine d_storeAll (i := 6) (vs := [.bool false, .int .i64 0, .int .i64 0, .bool false]) (bA 7 127) S H rfl rfl rfl rfl sz38 (.there .here) rfl (fun v hv => by simp only [List.mem_cons, List.not_mem_nil, or_false] at hv; rcases hv with rfl | rfl | rfl | rfl <;> rfl) (wanted_none rfl) rfl (by kernel_rfl) rfl ?_; clear S a H; intro w a H S
    revert a;refine qD (pT (pZ ?_))
    have hil := ints_len s
    have hR : tagP (ints s) q 0 = ⟨some ((tkT 1 2 (ints s) q), (tkT 2 6 (ints s) ((tkQ 1 2 (ints s) q) + 1))), none, (tkQ 2 6 (ints s) ((tkQ 1 2 (ints s) q) + 1)), 2, 0⟩ := (if_neg (fun h => absurd (hn5.2 ⟨by rw [← ints_len]; exact h.1, (sIn0 (at_by (ints_by' s) q).1).2 h.2⟩) (by rw [bc7]; decide))).trans ((if_neg (tru_ne vt10)).trans ((if_neg (fun h => by
     rcases h with h | h | h
     ·
      exact c14 (tk_empty.2 h)
     ·
      omega
     ·
      omega)).trans ((if_neg (tru_ne vt31)).trans ((if_neg (fun h => c35 (tk_empty.2 h))).trans ((if_pos (by omega)))))))
    intro a S
    rw [hR]
    exact r_retctc S rfl rfl rfl rfl (lva (cs := [.string (strOfNums (tkT 1 2 (ints s) q)), .string (strOfNums (tkT 2 6 (ints s) ((tkQ 1 2 (ints s) q) + 1)))]) ag66 sz66 rfl H m2) (lva (cs := [.bool false, .int .i64 0, .int .i64 0, .bool false]) ag38 sz38 rfl H m1) ⟨_, _, _, _, rfl, (H.sub (.cons_cons _ ((.cons _ (.cons _ (.refl _))))))⟩
   have c39 := of_decide_eq_false bc39
   refine pS (pG (pM 1 rfl ?_))
   have hil := ints_len s
   have ct41 := comma_le (X := (ints s)) (p := (tkQ 2 6 (ints s) ((tkQ 1 2 (ints s) q) + 1))) (by omega)
   have hcon := dec.jc.behind_ _ _ _ _ _ _ _ _ hs (by omega) (by omega) H
   refine pC Tryz.func70 hcon ?_
   rintro e w (⟨vt41, lt41, kt41, rfl, hH⟩ | ⟨vt41, rfl, hH⟩)
   ·
    refine ⟨_, rfl, ?_⟩
    clear H hcon; have H := hH; clear hH
    rw [show fsec 1 = 4 from rfl] at H
    refine pF [.bool true, .int .i64 lt41, .int .i64 kt41, .bool false] H rfl rfl sz38 (.there .here) ?_;clear H;intro w H
    refine pL (pT (pS (pG (pA fa38_0 rfl rfl rfl (pD H rfl rfl m1 rfl ag4 rfl (pL (pT (zt (pS ?_)))))))));intro a S
    refine d_start (id := 25) [4] 5 (bA 5 0) H rfl rfl rfl (fun w H => ?_)
    revert a;refine qR 0 H rfl (r_loadn (m := 2) (vs := [.string ⟨#[]⟩, .string ⟨#[]⟩]) rfl m2 ag66 sz66 rfl rfl) rfl (qR 1 H rfl (r_loadn (m := 4) (vs := [.bool true, .int .i64 lt41, .int .i64 kt41, .bool false]) rfl m1 ag38 sz38 rfl rfl) rfl ?_);intro a S
    refine d_storeAllN (i := 2) (vs := [.string ⟨#[]⟩, .string ⟨#[]⟩]) (bA 5 7) S H rfl rfl rfl rfl sz66 (.there (.there .here)) rfl (fun v hv => by simp only [List.mem_cons, List.not_mem_nil, or_false] at hv; rcases hv with rfl | rfl <;> rfl) (fun _ H => H) (wanted_none rfl) rfl (by kernel_rfl) rfl ?_; clear S a H; intro w a H S
    revert a;refine qM [3] rfl ?_;intro a S
    refine d_storeAll (i := 4) (vs := [.bool true, .int .i64 lt41, .int .i64 kt41, .bool false]) (bA 5 31) S H rfl rfl rfl rfl sz38 (.there .here) rfl (fun v hv => by simp only [List.mem_cons, List.not_mem_nil, or_false] at hv; rcases hv with rfl | rfl | rfl | rfl <;> rfl) (wanted_none rfl) rfl (by kernel_rfl) rfl ?_; clear S a H; intro w a H S
    revert a;refine qD (pT (pZ (pU ?_)))
    have hil := ints_len s
    have hR : tagP (ints s) q 0 = ⟨none, some (flt (ints s) (comma (ints s) (tkQ 2 6 (ints s) ((tkQ 1 2 (ints s) q) + 1))).1 (comma (ints s) (tkQ 2 6 (ints s) ((tkQ 1 2 (ints s) q) + 1))).1 0), (comma (ints s) (tkQ 2 6 (ints s) ((tkQ 1 2 (ints s) q) + 1))).1, 4, 0⟩ := (if_neg (fun h => absurd (hn5.2 ⟨by rw [← ints_len]; exact h.1, (sIn0 (at_by (ints_by' s) q).1).2 h.2⟩) (by rw [bc7]; decide))).trans ((if_neg (tru_ne vt10)).trans ((if_neg (fun h => by
     rcases h with h | h | h
     ·
      exact c14 (tk_empty.2 h)
     ·
      omega
     ·
      omega)).trans ((if_neg (tru_ne vt31)).trans ((if_neg (fun h => c35 (tk_empty.2 h))).trans ((if_neg (by omega)).trans ((if_pos vt41)))))))
    intro a S
    rw [hR]
    exact r_retctc S rfl rfl rfl rfl (lva (cs := [.string ⟨#[]⟩, .string ⟨#[]⟩]) ag66 sz66 rfl H m2) (lva (cs := [.bool true, .int .i64 lt41, .int .i64 kt41, .bool false]) ag38 sz38 rfl H m1) ⟨_, _, _, _, rfl, (H.sub (.cons_cons _ ((.cons _ (.cons _ (.refl _))))))⟩
   refine ⟨_, rfl, ?_⟩
   clear H hcon; have H := hH; clear hH
   refine pF [.bool false, .int .i64 0, .int .i64 0, .bool false] H rfl rfl sz38 (.there .here) ?_;clear H;intro w H
   refine pL (pT (pS (pG (pA fa38_0 rfl rfl rfl (pD H rfl rfl m1 rfl ag4 rfl (pL (pT (zf (pK (pT (pS ?_)))))))))));intro a S
   refine d_startW (id := 26) (Lr := ((g, .cells #[.string s, .int .i64 (((comma (ints s) (tkQ 2 6 (ints s) ((tkQ 1 2 (ints s) q) + 1))).1 : Nat) : Int), .int .i64 1, .int .i64 ((fr : Nat) : Int)] 73 (0, 0)) :: (gf, .cells #[.bool false, .int .i64 0, .int .i64 0, .bool false] 38 (0, 0)) :: L0)) [6] 7 (bA 7 0) H (fun _ H => H.sub ((.cons_cons _ ((.cons_cons _ ((.cons _ (.refl _)))))))) rfl rfl rfl (fun w H => ?_)
   revert a;refine qM [0,1] rfl (qP 2 rfl (p_bld (ps := [(0, .tmp 102), (1, .tmp 103)]) rfl (bld66_0_1 _ _)) rfl (qR 3 (H.sub ((.cons_cons _ ((.cons_cons _ ((.cons _ (.refl _)))))))) rfl (r_loadn (m := 4) (vs := [.bool false, .int .i64 0, .int .i64 0, .bool false]) rfl m1 ag38 sz38 rfl rfl) rfl ?_));intro a S
   refine d_storeAllN (i := 4) (vs := [.string (strOfNums (tkT 1 2 (ints s) q)), .string (strOfNums (tkT 2 6 (ints s) ((tkQ 1 2 (ints s) q) + 1)))]) (bA 7 31) S H rfl rfl rfl rfl sz66 (.there (.there .here)) rfl (fun v hv => by simp only [List.mem_cons, List.not_mem_nil, or_false] at hv; rcases hv with rfl | rfl <;> rfl) (fun _ H => H.sub ((.cons_cons _ ((.cons_cons _ ((.cons _ (.refl _)))))))) (wanted_none rfl) rfl (by kernel_rfl) rfl ?_; clear S a H; intro w a H S
   revert a;refine qM [5] rfl ?_;intro a S
   refine d_storeAll (i := 6) (vs := [.bool false, .int .i64 0, .int .i64 0, .bool false]) (bA 7 127) S H rfl rfl rfl rfl sz38 (.there .here) rfl (fun v hv => by simp only [List.mem_cons, List.not_mem_nil, or_false] at hv; rcases hv with rfl | rfl | rfl | rfl <;> rfl) (wanted_none rfl) rfl (by kernel_rfl) rfl ?_; clear S a H; intro w a H S
   revert a;refine qD (pT (pZ ?_))
   have hil := ints_len s
   have hR : tagP (ints s) q 0 = ⟨some ((tkT 1 2 (ints s) q), (tkT 2 6 (ints s) ((tkQ 1 2 (ints s) q) + 1))), none, (comma (ints s) (tkQ 2 6 (ints s) ((tkQ 1 2 (ints s) q) + 1))).1, 1, 0⟩ := (if_neg (fun h => absurd (hn5.2 ⟨by rw [← ints_len]; exact h.1, (sIn0 (at_by (ints_by' s) q).1).2 h.2⟩) (by rw [bc7]; decide))).trans ((if_neg (tru_ne vt10)).trans ((if_neg (fun h => by
    rcases h with h | h | h
    ·
     exact c14 (tk_empty.2 h)
    ·
     omega
    ·
     omega)).trans ((if_neg (tru_ne vt31)).trans ((if_neg (fun h => c35 (tk_empty.2 h))).trans ((if_neg (by omega)).trans ((if_neg (by rw [vt41]; decide))))))))
   intro a S
   rw [hR]
   exact r_retctc S rfl rfl rfl rfl (lva (cs := [.string (strOfNums (tkT 1 2 (ints s) q)), .string (strOfNums (tkT 2 6 (ints s) ((tkQ 1 2 (ints s) q) + 1)))]) ag66 sz66 rfl H m2) (lva (cs := [.bool false, .int .i64 0, .int .i64 0, .bool false]) ag38 sz38 rfl H m1) ⟨_, _, _, _, rfl, (H.sub (.cons_cons _ ((.cons _ (.cons _ (.refl _))))))⟩
  refine ⟨_, rfl, ?_⟩
  clear H hcon; have H := hH; clear hH
  rw [show fsec 1 = 4 from rfl] at H
  refine pM 4 rfl (pF [.bool true, .int .i64 lt31, .int .i64 kt31, .bool false] H rfl rfl sz38 (.there .here) ?_);clear H;intro w H
  refine pL (pT (pS (pS (pG (pA fa38_0 rfl rfl rfl (pD H rfl rfl m1 rfl ag4 rfl (pL (pT (zt (pS ?_))))))))));intro a S
  refine d_start (id := 18) [4] 5 (bA 5 0) H rfl rfl rfl (fun w H => ?_)
  revert a;refine qR 0 H rfl (r_loadn (m := 2) (vs := [.string ⟨#[]⟩, .string ⟨#[]⟩]) rfl m2 ag66 sz66 rfl rfl) rfl (qR 1 H rfl (r_loadn (m := 4) (vs := [.bool true, .int .i64 lt31, .int .i64 kt31, .bool false]) rfl m1 ag38 sz38 rfl rfl) rfl ?_);intro a S
  refine d_storeAllN (i := 2) (vs := [.string ⟨#[]⟩, .string ⟨#[]⟩]) (bA 5 7) S H rfl rfl rfl rfl sz66 (.there (.there .here)) rfl (fun v hv => by simp only [List.mem_cons, List.not_mem_nil, or_false] at hv; rcases hv with rfl | rfl <;> rfl) (fun _ H => H) (wanted_none rfl) rfl (by kernel_rfl) rfl ?_; clear S a H; intro w a H S
  revert a;refine qM [3] rfl ?_;intro a S
  refine d_storeAll (i := 4) (vs := [.bool true, .int .i64 lt31, .int .i64 kt31, .bool false]) (bA 5 31) S H rfl rfl rfl rfl sz38 (.there .here) rfl (fun v hv => by simp only [List.mem_cons, List.not_mem_nil, or_false] at hv; rcases hv with rfl | rfl | rfl | rfl <;> rfl) (wanted_none rfl) rfl (by kernel_rfl) rfl ?_; clear S a H; intro w a H S
  revert a;refine qD (pT (pZ (pU ?_)))
  have hil := ints_len s
  have hR : tagP (ints s) q 0 = ⟨none, some (flt (ints s) ((tkQ 1 2 (ints s) q) + 1) (tkQ 2 6 (ints s) ((tkQ 1 2 (ints s) q) + 1)) 0), (tkQ 2 6 (ints s) ((tkQ 1 2 (ints s) q) + 1)), 4, 0⟩ := (if_neg (fun h => absurd (hn5.2 ⟨by rw [← ints_len]; exact h.1, (sIn0 (at_by (ints_by' s) q).1).2 h.2⟩) (by rw [bc7]; decide))).trans ((if_neg (tru_ne vt10)).trans ((if_neg (fun h => by
   rcases h with h | h | h
   ·
    exact c14 (tk_empty.2 h)
   ·
    omega
   ·
    omega)).trans ((if_pos vt31))))
  intro a S
  rw [hR]
  exact r_retctc S rfl rfl rfl rfl (lva (cs := [.string ⟨#[]⟩, .string ⟨#[]⟩]) ag66 sz66 rfl H m2) (lva (cs := [.bool true, .int .i64 lt31, .int .i64 kt31, .bool false]) ag38 sz38 rfl H m1) ⟨_, _, _, _, rfl, (H.sub (.cons_cons _ ((.cons _ (.cons _ (.refl _))))))⟩
 refine ⟨_, rfl, ?_⟩
 clear H hcon; have H := hH; clear hH
 rw [show fsec 1 = 4 from rfl] at H
 refine pM 4 rfl (pF [.bool true, .int .i64 lt10, .int .i64 kt10, .bool false] H rfl rfl sz38 (.there .here) ?_);clear H;intro w H
 refine pL (pT (pS (pS (pG (pA fa38_0 rfl rfl rfl (pD H rfl rfl m1 rfl ag4 rfl (pL (pT (zt (pS ?_))))))))));intro a S
 refine d_start (id := 11) [4] 5 (bA 5 0) H rfl rfl rfl (fun w H => ?_)
 revert a;refine qR 0 H rfl (r_loadn (m := 2) (vs := [.string ⟨#[]⟩, .string ⟨#[]⟩]) rfl m2 ag66 sz66 rfl rfl) rfl (qR 1 H rfl (r_loadn (m := 4) (vs := [.bool true, .int .i64 lt10, .int .i64 kt10, .bool false]) rfl m1 ag38 sz38 rfl rfl) rfl ?_);intro a S
 refine d_storeAllN (i := 2) (vs := [.string ⟨#[]⟩, .string ⟨#[]⟩]) (bA 5 7) S H rfl rfl rfl rfl sz66 (.there (.there .here)) rfl (fun v hv => by simp only [List.mem_cons, List.not_mem_nil, or_false] at hv; rcases hv with rfl | rfl <;> rfl) (fun _ H => H) (wanted_none rfl) rfl (by kernel_rfl) rfl ?_; clear S a H; intro w a H S
 revert a;refine qM [3] rfl ?_;intro a S
 refine d_storeAll (i := 4) (vs := [.bool true, .int .i64 lt10, .int .i64 kt10, .bool false]) (bA 5 31) S H rfl rfl rfl rfl sz38 (.there .here) rfl (fun v hv => by simp only [List.mem_cons, List.not_mem_nil, or_false] at hv; rcases hv with rfl | rfl | rfl | rfl <;> rfl) (wanted_none rfl) rfl (by kernel_rfl) rfl ?_; clear S a H; intro w a H S
 revert a;refine qD (pT (pZ (pU ?_)))
 have hil := ints_len s
 have hR : tagP (ints s) q 0 = ⟨none, some (flt (ints s) q (tkQ 1 2 (ints s) q) 0), (tkQ 1 2 (ints s) q), 4, 0⟩ := (if_neg (fun h => absurd (hn5.2 ⟨by rw [← ints_len]; exact h.1, (sIn0 (at_by (ints_by' s) q).1).2 h.2⟩) (by rw [bc7]; decide))).trans ((if_pos vt10))
 intro a S
 rw [hR]
 exact r_retctc S rfl rfl rfl rfl (lva (cs := [.string ⟨#[]⟩, .string ⟨#[]⟩]) ag66 sz66 rfl H m2) (lva (cs := [.bool true, .int .i64 lt10, .int .i64 kt10, .bool false]) ag38 sz38 rfl H m1) ⟨_, _, _, _, rfl, (H.sub (.cons_cons _ ((.cons _ (.cons _ (.refl _))))))⟩
theorem time5 (wb w0 : World) (g : Nat) (s : ByteArray) (q : Nat) (fr : Nat) (L0 : dc.Bk) (hs : s.size ≤ 100000) (hq : q ≤ s.size) (hfr : fr ≤ 100000) (H : HH wb.heap.size wb w0 ((g, Obj.cells #[.string s, .int .i64 ((q : Nat) : Int), .int .i64 5, .int .i64 ((fr : Nat) : Int)] 73 (0, 0)) :: L0)) : Calls Tryz.prog 35 #[.pointer (some ⟨g, 0, none⟩)] w0 fun e w' => e = .returned (.tuple #[.string ⟨#[]⟩, .bool false, .agg #[.bool false, .int .i64 0, .int .i64 0, .bool false]]) ∧ HH wb.heap.size wb w' ((g, Obj.cells #[.string s, .int .i64 ((q : Nat) : Int), .int .i64 5, .int .i64 ((fr : Nat) : Int)] 73 (0, 0)) :: L0) := by
 refine c_enter (args := [.pointer (some ⟨g, 0, none⟩)]) (k := 85) Tryz.func35 rfl rfl rfl ?_
 refine pS (pG (pM 2 rfl ?_));intro a S
 refine l_alloc (cs := #[.bool false, .int .i64 0, .int .i64 0, .bool false]) S H rfl (fun w => al zv38) rfl rfl rfl ?_; clear S a H; intro gf w a H S
 revert a;refine pL (pT (pS (pS (pG (pM 1 rfl ?_)))))
 replace H := HH.pull1 H
 have hcon := dec.jc.skip_ _ _ _ _ _ _ _ _ hs (3) (by first | omega | decide) H
 refine pC Tryz.func28 hcon ?_
 rintro e w ⟨rfl, hH⟩
 refine ⟨_, rfl, ?_⟩
 clear H hcon; have H := hH; clear hH
 refine pF [.bool false, .int .i64 0, .int .i64 0, .bool false] H rfl rfl sz38 (.there .here) ?_;clear H;intro w H
 refine pL (pT (pS (pG (pA fa38_0 rfl rfl rfl (pD H rfl rfl m1 rfl ag4 rfl (pM 1 rfl (pN rfl (pP (p_move rfl) rfl (pN rfl (pP (p_nilCheck rfl) rfl (pN rfl (pA fa73_2 rfl rfl rfl (pN rfl (pD H rfl rfl m0 rfl ag3 rfl (pN rfl (pP (p_neq rfl rfl) rfl (pP (p_pick_f rfl rfl rfl) rfl (pL (pT (zt (pS ?_)))))))))))))))))))));intro a S
 refine d_start (id := 3) [3] 4 (bA 4 0) H rfl rfl rfl (fun w H => ?_)
 revert a;refine qM [1,2] rfl (qR 0 H rfl (r_loadn (m := 4) (vs := [.bool false, .int .i64 0, .int .i64 0, .bool false]) rfl m1 ag38 sz38 rfl rfl) rfl ?_);intro a S
 refine d_storeAll (i := 3) (vs := [.bool false, .int .i64 0, .int .i64 0, .bool false]) (bA 4 15) S H rfl rfl rfl rfl sz38 (.there .here) rfl (fun v hv => by simp only [List.mem_cons, List.not_mem_nil, or_false] at hv; rcases hv with rfl | rfl | rfl | rfl <;> rfl) (wanted_none rfl) rfl (by kernel_rfl) rfl ?_; clear S a H; intro w a H S
 revert a;refine qD (pT (pZ (pU ?_)));intro a S
 exact r_retttc S rfl rfl rfl rfl (lva (cs := [.bool false, .int .i64 0, .int .i64 0, .bool false]) ag38 sz38 rfl H m1) ⟨rfl, (H.sub (.cons_cons _ ((.cons _ (.refl _)))))⟩
theorem time_ (wb w0 : World) (g : Nat) (s : ByteArray) (q : Nat) (fr : Nat) (L0 : dc.Bk) (hs : s.size ≤ 100000) (hq : q ≤ s.size) (hfr : fr ≤ 100000) (H : HH wb.heap.size wb w0 ((g, Obj.cells #[.string s, .int .i64 ((q : Nat) : Int), .int .i64 3, .int .i64 ((fr : Nat) : Int)] 73 (0, 0)) :: L0)) : Calls Tryz.prog 35 #[.pointer (some ⟨g, 0, none⟩)] w0 fun e w' => ∃ (nm : ByteArray) (sm : Bool) (l k : Int), e = .returned (.tuple #[.string nm, .bool sm, .agg #[.bool (timeP (ints s) q 0).f.isSome, .int .i64 l, .int .i64 k, .bool false]]) ∧ HH wb.heap.size wb w' ((g, Obj.cells #[.string s, .int .i64 (((timeP (ints s) q 0).p : Nat) : Int), .int .i64 ((timeP (ints s) q 0).sec), .int .i64 ((fr : Nat) : Int)] 73 (0, 0)) :: L0) := by
 refine c_enter (args := [.pointer (some ⟨g, 0, none⟩)]) (k := 85) Tryz.func35 rfl rfl rfl ?_
 refine pS (pG (pM 2 rfl ?_));intro a S
 refine l_alloc (cs := #[.bool false, .int .i64 0, .int .i64 0, .bool false]) S H rfl (fun w => al zv38) rfl rfl rfl ?_; clear S a H; intro gf w a H S
 revert a;refine pL (pT (pS (pS (pG (pM 1 rfl ?_)))))
 replace H := HH.pull1 H
 have hcon := dec.jc.skip_ _ _ _ _ _ _ _ _ hs (3) (by first | omega | decide) H
 refine pC Tryz.func28 hcon ?_
 rintro e w ⟨rfl, hH⟩
 refine ⟨_, rfl, ?_⟩
 clear H hcon; have H := hH; clear hH
 refine pF [.bool false, .int .i64 0, .int .i64 0, .bool false] H rfl rfl sz38 (.there .here) ?_;clear H;intro w H
 refine pL (pT (pS (pG (pA fa38_0 rfl rfl rfl (pD H rfl rfl m1 rfl ag4 rfl (pM 1 rfl (pN rfl (pP (p_move rfl) rfl (pN rfl (pP (p_nilCheck rfl) rfl (pN rfl (pA fa73_2 rfl rfl rfl (pN rfl (pD H rfl rfl m0 rfl ag3 rfl (pN rfl (pP (p_neq rfl rfl) rfl (pP (p_pick_f rfl rfl rfl) rfl (pL (pT (zf (pK (pT (pS (pG (pM 2 rfl (pA fa73_1 rfl rfl rfl (pD H rfl rfl m0 rfl ag3 rfl (pM 1 rfl (pL (pT (pS (pG (pM 1 rfl ?_)))))))))))))))))))))))))))))))))
 have hcon := dec.jb.run_ _ _ _ _ _ _ _ _ hs 10 (by decide) (by omega) H
 refine pC Tryz.func29 hcon ?_
 rintro e w ⟨m5, rfl, hm5, hH⟩
 refine ⟨_, rfl, ?_⟩
 clear H hcon; have H := hH; clear hH
 have gm5 := run_ge 10 (ints s) q
 have lm5 := run_le (k := 10) (X := ints s) (p := q) (by rw [ints_len]; omega)
 have hsl := ints_len s
 refine pM 1 rfl (pL (pT (pS (pS (pG (pM 1 rfl (pP (p_seql rfl rfl) rfl ?_)))))));intro a S
 rw [sE] at S
 revert a;refine pL (pT (zc rfl (fun bc7 => ?_) (fun bc7 => ?_)))
 ·
  have c7 := of_decide_eq_true bc7
  refine pG (pM 2 rfl (pA fa73_2 rfl rfl rfl (pE H rfl rfl rfl .here (by first | decide | simp [Value.cells]) sz3 ?_)));clear H;intro w H
  refine pL (pT (pS (pS (pG (pM 1 rfl ?_)))))
  have hcon := dec.jb.done_ _ _ _ _ _ _ _ _ hs H
  refine pC Tryz.func31 hcon ?_
  rintro e w ⟨rfl, hH⟩
  refine ⟨_, rfl, ?_⟩
  clear H hcon; have H := hH; clear hH
  refine pP (p_not rfl) rfl (pM 1 rfl ?_);intro a S
  refine l_split (S.of 35 rfl) (fun bc10 => ?_) (fun bc10 => ?_)
  ·
   have c10 := not_eq_true_ bc10
   have c10 := of_decide_eq_false c10
   revert a;refine pN bc10 (pP (p_move rfl) rfl (pN bc10 ?_))
   have hcon := dec.jb.next_ _ _ _ _ _ _ _ _ hs 1 (by decide) H
   refine pC Tryz.func65 hcon ?_
   rintro e w ⟨n11, rfl, hn11, hH⟩
   refine ⟨_, rfl, ?_⟩
   clear H hcon; have H := hH; clear hH
   refine pN bc10 (pP (p_not rfl) rfl (pP (p_pick_t rfl bc10 rfl) rfl (pL (pT (zc rfl (fun bc14 => ?_) (fun bc14 => ?_))))))
   ·
    have c14 := not_eq_true_ bc14
    refine pS (pG (pM 1 rfl ?_))
    have hcon := dec.jb.run_ _ _ _ _ _ _ _ _ hs 12 (by decide) (by omega) H
    refine pC Tryz.func29 hcon ?_
    rintro e w ⟨m15, rfl, hm15, hH⟩
    refine ⟨_, rfl, ?_⟩
    clear H hcon; have H := hH; clear hH
    have gm15 := run_ge 12 (ints s) (run 10 (ints s) q)
    have lm15 := run_le (k := 12) (X := ints s) (p := (run 10 (ints s) q)) (by rw [ints_len]; omega)
    have hsl := ints_len s
    refine pL (pT (pS (pG (pM 2 rfl ?_))))
    have hcon := dec.jc.fault_ _ _ _ _ _ _ _ _ hs (q) (by omega) (by omega) H
    refine pC Tryz.func69 hcon ?_
    rintro e w ⟨lf16, kf16, rfl, hH⟩
    refine ⟨_, rfl, ?_⟩
    clear H hcon; have H := hH; clear hH
    rw [show fsec 5 = 5 from rfl] at H
    refine pM 2 rfl (pF [.bool true, .int .i64 lf16, .int .i64 kf16, .bool false] H rfl rfl sz38 (.there .here) ?_);clear H;intro w H
    refine pL (pT (pZ (pU ?_)))
    have hil := ints_len s
    have hgr := run_ge 10 (ints s) q
    have hw0 : sIn 1 ((ints s).getD (run 10 (ints s) q) 0).toNat = false := by
     cases hc : sIn 1 ((ints s).getD (run 10 (ints s) q) 0).toNat with
     | false => rfl
     | true => exact absurd (hn11.2 ⟨by omega, hc⟩) (by simpa using bc14)
    have hsec : (if (run 10 (ints s) q) = q then 5 else 4) = (5 : Int) := if_pos (by omega)
    have hR : timeP (ints s) q 0 = ⟨[], some (flt (ints s) q (run 12 (ints s) (run 10 (ints s) q)) 0), (run 12 (ints s) (run 10 (ints s) q)), (if (run 10 (ints s) q) = q then 5 else 4), 0⟩ := (if_neg (by omega)).trans ((if_pos hw0))
    rw [hsec] at hR
    intro a S
    rw [hR]
    exact r_retttc S rfl rfl rfl rfl (lva (cs := [.bool true, .int .i64 lf16, .int .i64 kf16, .bool false]) ag38 sz38 rfl H m1) ⟨_, _, _, _, rfl, (H.sub (.cons_cons _ ((.cons _ (.refl _)))))⟩
   have c14 := not_eq_false_ bc14
   refine pK (pT (pS (pG (pM 1 rfl ?_))))
   have hcon := dec.jb.run_ _ _ _ _ _ _ _ _ hs 0 (by decide) (by omega) H
   refine pC Tryz.func29 hcon ?_
   rintro e w ⟨m18, rfl, hm18, hH⟩
   refine ⟨_, rfl, ?_⟩
   clear H hcon; have H := hH; clear hH
   have gm18 := run_ge 0 (ints s) (run 10 (ints s) q)
   have lm18 := run_le (k := 0) (X := ints s) (p := (run 10 (ints s) q)) (by rw [ints_len]; omega)
   have hsl := ints_len s
   refine pL (pT (pS ?_));intro a S
   refine d_start (id := 12) [] 15 (bA 15 0) H rfl rfl rfl (fun w H => ?_)
   revert a;refine qM [0,1,4,5] rfl (qA 2 fa73_0 rfl rfl rfl rfl (qE 3 H rfl rfl rfl m0 rfl ag9 rfl (qA 6 fa73_1 rfl rfl rfl rfl (qE 7 H rfl rfl rfl m0 rfl ag3 rfl (qP 8 rfl (p_slice rfl (o_some rfl) (fun _ _ => o_none) (fun _ _ => o_none) (fun w => sl_string_lo Tryz.underlying9 (by omega) (by omega))) rfl ?_)))));intro a S
   simp only [Int.toNat_natCast] at S
   have hcon := dec.ja.end_ wb _ _ (s.extract ((run 0 (ints s) (run 10 (ints s) q))) (s.size)) (by rw [ByteArray.size_extract]; omega) H
   rw [show ints (s.extract ((run 0 (ints s) (run 10 (ints s) q))) (s.size)) = (ints s).drop ((run 0 (ints s) (run 10 (ints s) q))) by rw [ints_extract, ← ints_len, List.take_length], eol_drop (by rw [ints_len]; omega)] at hcon
   have hel := eol_le (X := ints s) (p := (run 0 (ints s) (run 10 (ints s) q))) (by rw [ints_len]; omega)
   have hsl := ints_len s
   refine d_call (i := 9) (bA 15 1023) S rfl rfl rfl Tryz.func67 rfl rfl hcon (wanted_none rfl) rfl rfl (by kernel_rfl) rfl ?_
   rintro e w ⟨rfl, hH⟩
   refine ⟨_, rfl, hH, ?_⟩;clear S a
   clear H hcon; have H := hH; clear hH
   refine qM [10,11,12,13,14] rfl (qD (pT (pS (pS (pG (pM 1 rfl (pP (p_not rfl) rfl (pL (pT (zc rfl (fun bc21 => ?_) (fun bc21 => ?_)))))))))))
   ·
    have c21 := not_eq_true_ bc21
    refine pS (pG (pM 2 rfl (pA fa73_1 rfl rfl rfl (pD H rfl rfl m0 rfl ag3 rfl (pM 1 rfl (pL (pT (pS (pG (pM 1 rfl ?_))))))))))
    have hcon := dec.jb.run_ _ _ _ _ _ _ _ _ hs 12 (by decide) (by omega) H
    refine pC Tryz.func29 hcon ?_
    rintro e w ⟨m22, rfl, hm22, hH⟩
    refine ⟨_, rfl, ?_⟩
    clear H hcon; have H := hH; clear hH
    have gm22 := run_ge 12 (ints s) (run 0 (ints s) (run 10 (ints s) q))
    have lm22 := run_le (k := 12) (X := ints s) (p := (run 0 (ints s) (run 10 (ints s) q))) (by rw [ints_len]; omega)
    have hsl := ints_len s
    refine pL (pT (pS (pG (pM 2 rfl ?_))))
    have hcon := dec.jc.fault_ _ _ _ _ _ _ _ _ hs ((run 0 (ints s) (run 10 (ints s) q))) (by omega) (by omega) H
    refine pC Tryz.func69 hcon ?_
    rintro e w ⟨lf23, kf23, rfl, hH⟩
    refine ⟨_, rfl, ?_⟩
    clear H hcon; have H := hH; clear hH
    rw [show fsec 5 = 5 from rfl] at H
    refine pM 2 rfl (pF [.bool true, .int .i64 lf23, .int .i64 kf23, .bool false] H rfl rfl sz38 (.there .here) ?_);clear H;intro w H
    refine pL (pT (pZ (pU ?_)))
    have hil := ints_len s
    have hgr := run_ge 10 (ints s) q
    have hw1 := (hn11.1 (by simpa using bc14)).2
    have hsec : (if (run 10 (ints s) q) = q then 5 else 4) = (5 : Int) := if_pos (by omega)
    have hR : timeP (ints s) q 0 = ⟨[], some (flt (ints s) (run 0 (ints s) (run 10 (ints s) q)) (run 12 (ints s) (run 0 (ints s) (run 10 (ints s) q))) 0), (run 12 (ints s) (run 0 (ints s) (run 10 (ints s) q))), (if (run 10 (ints s) q) = q then 5 else 4), 0⟩ := (if_neg (by omega)).trans ((if_neg (by rw [hw1]; decide)).trans ((if_neg (by simpa using bc21))))
    rw [hsec] at hR
    intro a S
    rw [hR]
    exact r_retttc S rfl rfl rfl rfl (lva (cs := [.bool true, .int .i64 lf23, .int .i64 kf23, .bool false]) ag38 sz38 rfl H m1) ⟨_, _, _, _, rfl, (H.sub (.cons_cons _ ((.cons _ (.refl _)))))⟩
   have c21 := not_eq_false_ bc21
   refine pK (pT (pS (pG (pM 2 rfl (pA fa73_1 rfl rfl rfl (pD H rfl rfl m0 rfl ag3 rfl (pM 1 rfl (pP (p_add rfl rfl (nat_add (x := (run 0 (ints s) (run 10 (ints s) q))) (y := ((dc.eol (ints s) ((run 0 (ints s) (run 10 (ints s) q)))).2.1)) (by omega))) rfl (pM 1 rfl (pA fa73_1 rfl rfl rfl (pE H rfl rfl rfl .here (by first | decide | simp [Value.cells]) sz3 ?_)))))))))));clear H;intro w H
   refine pL (pT (pS (pG (pM 2 rfl (pA fa73_2 rfl rfl rfl (pE H rfl rfl rfl .here (by first | decide | simp [Value.cells]) sz3 ?_))))));clear H;intro w H
   refine pL (pT (pS ?_));intro a S
   refine d_start (id := 19) [6] 7 (bA 7 0) H rfl rfl rfl (fun w H => ?_)
   revert a;refine qM [0,1,4] rfl (qP 2 rfl (p_sneq rfl rfl) rfl ?_);intro a S
   rw [sE] at S
   revert a;refine qM [5] rfl (qR 3 H rfl (r_loadn (m := 4) (vs := [.bool false, .int .i64 0, .int .i64 0, .bool false]) rfl m1 ag38 sz38 rfl rfl) rfl ?_);intro a S
   refine d_storeAll (i := 6) (vs := [.bool false, .int .i64 0, .int .i64 0, .bool false]) (bA 7 127) S H rfl rfl rfl rfl sz38 (.there .here) rfl (fun v hv => by simp only [List.mem_cons, List.not_mem_nil, or_false] at hv; rcases hv with rfl | rfl | rfl | rfl <;> rfl) (wanted_none rfl) rfl (by kernel_rfl) rfl ?_; clear S a H; intro w a H S
   revert a;refine qD (pT (pZ ?_))
   have hil := ints_len s
   have hgr := run_ge 10 (ints s) q
   have hw1 := (hn11.1 (by simpa using bc14)).2
   have hR : timeP (ints s) q 0 = ⟨(((ints s).take (run 10 (ints s) q)).drop q), none, (run 0 (ints s) (run 10 (ints s) q)) + (dc.eol (ints s) (run 0 (ints s) (run 10 (ints s) q))).2.1, 5, 0 + (dc.eol (ints s) (run 0 (ints s) (run 10 (ints s) q))).2.2⟩ := (if_neg (by omega)).trans ((if_neg (by rw [hw1]; decide)).trans ((if_pos (by simpa using bc21))))
   intro a S
   rw [hR]
   exact r_retttc S rfl rfl rfl rfl (lva (cs := [.bool false, .int .i64 0, .int .i64 0, .bool false]) ag38 sz38 rfl H m1) ⟨_, _, _, _, rfl, (H.sub (.cons_cons _ ((.cons _ (.refl _)))))⟩
  have c10 := not_eq_false_ bc10
  have c10 := of_decide_eq_true c10
  revert a;refine pO bc10 rfl (pO bc10 rfl (pO bc10 rfl (pP (p_pick_f rfl bc10 rfl) rfl (pL (pT (zf (pK (pT (pS (pG (pM 1 rfl ?_)))))))))))
  have hcon := dec.jb.run_ _ _ _ _ _ _ _ _ hs 0 (by decide) (by omega) H
  refine pC Tryz.func29 hcon ?_
  rintro e w ⟨m28, rfl, hm28, hH⟩
  refine ⟨_, rfl, ?_⟩
  clear H hcon; have H := hH; clear hH
  have gm28 := run_ge 0 (ints s) (run 10 (ints s) q)
  have lm28 := run_le (k := 0) (X := ints s) (p := (run 10 (ints s) q)) (by rw [ints_len]; omega)
  have hsl := ints_len s
  refine pL (pT (pS ?_));intro a S
  refine d_start (id := 12) [] 15 (bA 15 0) H rfl rfl rfl (fun w H => ?_)
  revert a;refine qM [0,1,4,5] rfl (qA 2 fa73_0 rfl rfl rfl rfl (qE 3 H rfl rfl rfl m0 rfl ag9 rfl (qA 6 fa73_1 rfl rfl rfl rfl (qE 7 H rfl rfl rfl m0 rfl ag3 rfl (qP 8 rfl (p_slice rfl (o_some rfl) (fun _ _ => o_none) (fun _ _ => o_none) (fun w => sl_string_lo Tryz.underlying9 (by omega) (by omega))) rfl ?_)))));intro a S
  simp only [Int.toNat_natCast] at S
  have hcon := dec.ja.end_ wb _ _ (s.extract ((run 0 (ints s) (run 10 (ints s) q))) (s.size)) (by rw [ByteArray.size_extract]; omega) H
  rw [show ints (s.extract ((run 0 (ints s) (run 10 (ints s) q))) (s.size)) = (ints s).drop ((run 0 (ints s) (run 10 (ints s) q))) by rw [ints_extract, ← ints_len, List.take_length], eol_drop (by rw [ints_len]; omega)] at hcon
  have hel := eol_le (X := ints s) (p := (run 0 (ints s) (run 10 (ints s) q))) (by rw [ints_len]; omega)
  have hsl := ints_len s
  refine d_call (i := 9) (bA 15 1023) S rfl rfl rfl Tryz.func67 rfl rfl hcon (wanted_none rfl) rfl rfl (by kernel_rfl) rfl ?_
  rintro e w ⟨rfl, hH⟩
  refine ⟨_, rfl, hH, ?_⟩;clear S a
  clear H hcon; have H := hH; clear hH
  refine qM [10,11,12,13,14] rfl (qD (pT (pS (pS (pG (pM 1 rfl (pP (p_not rfl) rfl (pL (pT (zc rfl (fun bc31 => ?_) (fun bc31 => ?_)))))))))))
  ·
   have c31 := not_eq_true_ bc31
   refine pS (pG (pM 2 rfl (pA fa73_1 rfl rfl rfl (pD H rfl rfl m0 rfl ag3 rfl (pM 1 rfl (pL (pT (pS (pG (pM 1 rfl ?_))))))))))
   have hcon := dec.jb.run_ _ _ _ _ _ _ _ _ hs 12 (by decide) (by omega) H
   refine pC Tryz.func29 hcon ?_
   rintro e w ⟨m32, rfl, hm32, hH⟩
   refine ⟨_, rfl, ?_⟩
   clear H hcon; have H := hH; clear hH
   have gm32 := run_ge 12 (ints s) (run 0 (ints s) (run 10 (ints s) q))
   have lm32 := run_le (k := 12) (X := ints s) (p := (run 0 (ints s) (run 10 (ints s) q))) (by rw [ints_len]; omega)
   have hsl := ints_len s
   refine pL (pT (pS (pG (pM 2 rfl ?_))))
   have hcon := dec.jc.fault_ _ _ _ _ _ _ _ _ hs ((run 0 (ints s) (run 10 (ints s) q))) (by omega) (by omega) H
   refine pC Tryz.func69 hcon ?_
   rintro e w ⟨lf33, kf33, rfl, hH⟩
   refine ⟨_, rfl, ?_⟩
   clear H hcon; have H := hH; clear hH
   rw [show fsec 5 = 5 from rfl] at H
   refine pM 2 rfl (pF [.bool true, .int .i64 lf33, .int .i64 kf33, .bool false] H rfl rfl sz38 (.there .here) ?_);clear H;intro w H
   refine pL (pT (pZ (pU ?_)))
   have hil := ints_len s
   have hgr := run_ge 10 (ints s) q
   have e1 : (run 0 (ints s) (run 10 (ints s) q)) = (run 10 (ints s) q) := run_end (by omega)
   have e2 : dc.eol (ints s) (run 0 (ints s) (run 10 (ints s) q)) = (true, 0, 0) := eol_end (by omega)
   intro a S
   exfalso; have := bc31; rw [e2] at this; cases this
  have c31 := not_eq_false_ bc31
  refine pK (pT (pS (pG (pM 2 rfl (pA fa73_1 rfl rfl rfl (pD H rfl rfl m0 rfl ag3 rfl (pM 1 rfl (pP (p_add rfl rfl (nat_add (x := (run 0 (ints s) (run 10 (ints s) q))) (y := ((dc.eol (ints s) ((run 0 (ints s) (run 10 (ints s) q)))).2.1)) (by omega))) rfl (pM 1 rfl (pA fa73_1 rfl rfl rfl (pE H rfl rfl rfl .here (by first | decide | simp [Value.cells]) sz3 ?_)))))))))));clear H;intro w H
  refine pL (pT (pS (pG (pM 2 rfl (pA fa73_2 rfl rfl rfl (pE H rfl rfl rfl .here (by first | decide | simp [Value.cells]) sz3 ?_))))));clear H;intro w H
  refine pL (pT (pS ?_));intro a S
  refine d_start (id := 19) [6] 7 (bA 7 0) H rfl rfl rfl (fun w H => ?_)
  revert a;refine qM [0,1,4] rfl (qP 2 rfl (p_sneq rfl rfl) rfl ?_);intro a S
  rw [sE] at S
  revert a;refine qM [5] rfl (qR 3 H rfl (r_loadn (m := 4) (vs := [.bool false, .int .i64 0, .int .i64 0, .bool false]) rfl m1 ag38 sz38 rfl rfl) rfl ?_);intro a S
  refine d_storeAll (i := 6) (vs := [.bool false, .int .i64 0, .int .i64 0, .bool false]) (bA 7 127) S H rfl rfl rfl rfl sz38 (.there .here) rfl (fun v hv => by simp only [List.mem_cons, List.not_mem_nil, or_false] at hv; rcases hv with rfl | rfl | rfl | rfl <;> rfl) (wanted_none rfl) rfl (by kernel_rfl) rfl ?_; clear S a H; intro w a H S
  revert a;refine qD (pT (pZ ?_))
  have hil := ints_len s
  have hgr := run_ge 10 (ints s) q
  have e1 : (run 0 (ints s) (run 10 (ints s) q)) = (run 10 (ints s) q) := run_end (by omega)
  have e2 : dc.eol (ints s) (run 0 (ints s) (run 10 (ints s) q)) = (true, 0, 0) := eol_end (by omega)
  rw [e2] at H
  simp only [Nat.add_zero] at H
  rw [e1] at H
  have hR : timeP (ints s) q 0 = ⟨(((ints s).take (run 10 (ints s) q)).drop q), none, (run 10 (ints s) q), 5, 0⟩ := (if_pos (by omega))
  intro a S
  rw [hR]
  exact r_retttc S rfl rfl rfl rfl (lva (cs := [.bool false, .int .i64 0, .int .i64 0, .bool false]) ag38 sz38 rfl H m1) ⟨_, _, _, _, rfl, (H.sub (.cons_cons _ ((.cons _ (.refl _)))))⟩
 have c7 := of_decide_eq_false bc7
 refine pK (pT (pS (pS (pG (pM 1 rfl ?_)))))
 have hcon := dec.jb.done_ _ _ _ _ _ _ _ _ hs H
 refine pC Tryz.func31 hcon ?_
 rintro e w ⟨rfl, hH⟩
 refine ⟨_, rfl, ?_⟩
 clear H hcon; have H := hH; clear hH
 refine pP (p_not rfl) rfl (pM 1 rfl ?_);intro a S
 refine l_split (S.of 35 rfl) (fun bc38 => ?_) (fun bc38 => ?_)
 ·
  have c38 := not_eq_true_ bc38
  have c38 := of_decide_eq_false c38
  revert a;refine pN bc38 (pP (p_move rfl) rfl (pN bc38 ?_))
  have hcon := dec.jb.next_ _ _ _ _ _ _ _ _ hs 1 (by decide) H
  refine pC Tryz.func65 hcon ?_
  rintro e w ⟨n39, rfl, hn39, hH⟩
  refine ⟨_, rfl, ?_⟩
  clear H hcon; have H := hH; clear hH
  refine pN bc38 (pP (p_not rfl) rfl (pP (p_pick_t rfl bc38 rfl) rfl (pL (pT (zc rfl (fun bc42 => ?_) (fun bc42 => ?_))))))
  ·
   have c42 := not_eq_true_ bc42
   refine pS (pG (pM 1 rfl ?_))
   have hcon := dec.jb.run_ _ _ _ _ _ _ _ _ hs 12 (by decide) (by omega) H
   refine pC Tryz.func29 hcon ?_
   rintro e w ⟨m43, rfl, hm43, hH⟩
   refine ⟨_, rfl, ?_⟩
   clear H hcon; have H := hH; clear hH
   have gm43 := run_ge 12 (ints s) (run 10 (ints s) q)
   have lm43 := run_le (k := 12) (X := ints s) (p := (run 10 (ints s) q)) (by rw [ints_len]; omega)
   have hsl := ints_len s
   refine pL (pT (pS (pG (pM 2 rfl ?_))))
   have hcon := dec.jc.fault_ _ _ _ _ _ _ _ _ hs (q) (by omega) (by omega) H
   refine pC Tryz.func69 hcon ?_
   rintro e w ⟨lf44, kf44, rfl, hH⟩
   refine ⟨_, rfl, ?_⟩
   clear H hcon; have H := hH; clear hH
   rw [show fsec 3 = 4 from rfl] at H
   refine pM 2 rfl (pF [.bool true, .int .i64 lf44, .int .i64 kf44, .bool false] H rfl rfl sz38 (.there .here) ?_);clear H;intro w H
   refine pL (pT (pZ (pU ?_)))
   have hil := ints_len s
   have hgr := run_ge 10 (ints s) q
   have hw0 : sIn 1 ((ints s).getD (run 10 (ints s) q) 0).toNat = false := by
    cases hc : sIn 1 ((ints s).getD (run 10 (ints s) q) 0).toNat with
    | false => rfl
    | true => exact absurd (hn39.2 ⟨by omega, hc⟩) (by simpa using bc42)
   have hsec : (if (run 10 (ints s) q) = q then 5 else 4) = (4 : Int) := if_neg (by omega)
   have hR : timeP (ints s) q 0 = ⟨[], some (flt (ints s) q (run 12 (ints s) (run 10 (ints s) q)) 0), (run 12 (ints s) (run 10 (ints s) q)), (if (run 10 (ints s) q) = q then 5 else 4), 0⟩ := (if_neg (by omega)).trans ((if_pos hw0))
   rw [hsec] at hR
   intro a S
   rw [hR]
   exact r_retttc S rfl rfl rfl rfl (lva (cs := [.bool true, .int .i64 lf44, .int .i64 kf44, .bool false]) ag38 sz38 rfl H m1) ⟨_, _, _, _, rfl, (H.sub (.cons_cons _ ((.cons _ (.refl _)))))⟩
  have c42 := not_eq_false_ bc42
  refine pK (pT (pS (pG (pM 1 rfl ?_))))
  have hcon := dec.jb.run_ _ _ _ _ _ _ _ _ hs 0 (by decide) (by omega) H
  refine pC Tryz.func29 hcon ?_
  rintro e w ⟨m46, rfl, hm46, hH⟩
  refine ⟨_, rfl, ?_⟩
  clear H hcon; have H := hH; clear hH
  have gm46 := run_ge 0 (ints s) (run 10 (ints s) q)
  have lm46 := run_le (k := 0) (X := ints s) (p := (run 10 (ints s) q)) (by rw [ints_len]; omega)
  have hsl := ints_len s
  refine pL (pT (pS ?_));intro a S
  refine d_start (id := 12) [] 15 (bA 15 0) H rfl rfl rfl (fun w H => ?_)
  revert a;refine qM [0,1,4,5] rfl (qA 2 fa73_0 rfl rfl rfl rfl (qE 3 H rfl rfl rfl m0 rfl ag9 rfl (qA 6 fa73_1 rfl rfl rfl rfl (qE 7 H rfl rfl rfl m0 rfl ag3 rfl (qP 8 rfl (p_slice rfl (o_some rfl) (fun _ _ => o_none) (fun _ _ => o_none) (fun w => sl_string_lo Tryz.underlying9 (by omega) (by omega))) rfl ?_)))));intro a S
  simp only [Int.toNat_natCast] at S
  have hcon := dec.ja.end_ wb _ _ (s.extract ((run 0 (ints s) (run 10 (ints s) q))) (s.size)) (by rw [ByteArray.size_extract]; omega) H
  rw [show ints (s.extract ((run 0 (ints s) (run 10 (ints s) q))) (s.size)) = (ints s).drop ((run 0 (ints s) (run 10 (ints s) q))) by rw [ints_extract, ← ints_len, List.take_length], eol_drop (by rw [ints_len]; omega)] at hcon
  have hel := eol_le (X := ints s) (p := (run 0 (ints s) (run 10 (ints s) q))) (by rw [ints_len]; omega)
  have hsl := ints_len s
  refine d_call (i := 9) (bA 15 1023) S rfl rfl rfl Tryz.func67 rfl rfl hcon (wanted_none rfl) rfl rfl (by kernel_rfl) rfl ?_
  rintro e w ⟨rfl, hH⟩
  refine ⟨_, rfl, hH, ?_⟩;clear S a
  clear H hcon; have H := hH; clear hH
  refine qM [10,11,12,13,14] rfl (qD (pT (pS (pS (pG (pM 1 rfl (pP (p_not rfl) rfl (pL (pT (zc rfl (fun bc49 => ?_) (fun bc49 => ?_)))))))))))
  ·
   have c49 := not_eq_true_ bc49
   refine pS (pG (pM 2 rfl (pA fa73_1 rfl rfl rfl (pD H rfl rfl m0 rfl ag3 rfl (pM 1 rfl (pL (pT (pS (pG (pM 1 rfl ?_))))))))))
   have hcon := dec.jb.run_ _ _ _ _ _ _ _ _ hs 12 (by decide) (by omega) H
   refine pC Tryz.func29 hcon ?_
   rintro e w ⟨m50, rfl, hm50, hH⟩
   refine ⟨_, rfl, ?_⟩
   clear H hcon; have H := hH; clear hH
   have gm50 := run_ge 12 (ints s) (run 0 (ints s) (run 10 (ints s) q))
   have lm50 := run_le (k := 12) (X := ints s) (p := (run 0 (ints s) (run 10 (ints s) q))) (by rw [ints_len]; omega)
   have hsl := ints_len s
   refine pL (pT (pS (pG (pM 2 rfl ?_))))
   have hcon := dec.jc.fault_ _ _ _ _ _ _ _ _ hs ((run 0 (ints s) (run 10 (ints s) q))) (by omega) (by omega) H
   refine pC Tryz.func69 hcon ?_
   rintro e w ⟨lf51, kf51, rfl, hH⟩
   refine ⟨_, rfl, ?_⟩
   clear H hcon; have H := hH; clear hH
   rw [show fsec 3 = 4 from rfl] at H
   refine pM 2 rfl (pF [.bool true, .int .i64 lf51, .int .i64 kf51, .bool false] H rfl rfl sz38 (.there .here) ?_);clear H;intro w H
   refine pL (pT (pZ (pU ?_)))
   have hil := ints_len s
   have hgr := run_ge 10 (ints s) q
   have hw1 := (hn39.1 (by simpa using bc42)).2
   have hsec : (if (run 10 (ints s) q) = q then 5 else 4) = (4 : Int) := if_neg (by omega)
   have hR : timeP (ints s) q 0 = ⟨[], some (flt (ints s) (run 0 (ints s) (run 10 (ints s) q)) (run 12 (ints s) (run 0 (ints s) (run 10 (ints s) q))) 0), (run 12 (ints s) (run 0 (ints s) (run 10 (ints s) q))), (if (run 10 (ints s) q) = q then 5 else 4), 0⟩ := (if_neg (by omega)).trans ((if_neg (by rw [hw1]; decide)).trans ((if_neg (by simpa using bc49))))
   rw [hsec] at hR
   intro a S
   rw [hR]
   exact r_retttc S rfl rfl rfl rfl (lva (cs := [.bool true, .int .i64 lf51, .int .i64 kf51, .bool false]) ag38 sz38 rfl H m1) ⟨_, _, _, _, rfl, (H.sub (.cons_cons _ ((.cons _ (.refl _)))))⟩
  have c49 := not_eq_false_ bc49
  refine pK (pT (pS (pG (pM 2 rfl (pA fa73_1 rfl rfl rfl (pD H rfl rfl m0 rfl ag3 rfl (pM 1 rfl (pP (p_add rfl rfl (nat_add (x := (run 0 (ints s) (run 10 (ints s) q))) (y := ((dc.eol (ints s) ((run 0 (ints s) (run 10 (ints s) q)))).2.1)) (by omega))) rfl (pM 1 rfl (pA fa73_1 rfl rfl rfl (pE H rfl rfl rfl .here (by first | decide | simp [Value.cells]) sz3 ?_)))))))))));clear H;intro w H
  refine pL (pT (pS (pG (pM 2 rfl (pA fa73_2 rfl rfl rfl (pE H rfl rfl rfl .here (by first | decide | simp [Value.cells]) sz3 ?_))))));clear H;intro w H
  refine pL (pT (pS ?_));intro a S
  refine d_start (id := 19) [6] 7 (bA 7 0) H rfl rfl rfl (fun w H => ?_)
  revert a;refine qM [0,1,4] rfl (qP 2 rfl (p_sneq rfl rfl) rfl ?_);intro a S
  rw [sE] at S
  revert a;refine qM [5] rfl (qR 3 H rfl (r_loadn (m := 4) (vs := [.bool false, .int .i64 0, .int .i64 0, .bool false]) rfl m1 ag38 sz38 rfl rfl) rfl ?_);intro a S
  refine d_storeAll (i := 6) (vs := [.bool false, .int .i64 0, .int .i64 0, .bool false]) (bA 7 127) S H rfl rfl rfl rfl sz38 (.there .here) rfl (fun v hv => by simp only [List.mem_cons, List.not_mem_nil, or_false] at hv; rcases hv with rfl | rfl | rfl | rfl <;> rfl) (wanted_none rfl) rfl (by kernel_rfl) rfl ?_; clear S a H; intro w a H S
  revert a;refine qD (pT (pZ ?_))
  have hil := ints_len s
  have hgr := run_ge 10 (ints s) q
  have hw1 := (hn39.1 (by simpa using bc42)).2
  have hR : timeP (ints s) q 0 = ⟨(((ints s).take (run 10 (ints s) q)).drop q), none, (run 0 (ints s) (run 10 (ints s) q)) + (dc.eol (ints s) (run 0 (ints s) (run 10 (ints s) q))).2.1, 5, 0 + (dc.eol (ints s) (run 0 (ints s) (run 10 (ints s) q))).2.2⟩ := (if_neg (by omega)).trans ((if_neg (by rw [hw1]; decide)).trans ((if_pos (by simpa using bc49))))
  intro a S
  rw [hR]
  exact r_retttc S rfl rfl rfl rfl (lva (cs := [.bool false, .int .i64 0, .int .i64 0, .bool false]) ag38 sz38 rfl H m1) ⟨_, _, _, _, rfl, (H.sub (.cons_cons _ ((.cons _ (.refl _)))))⟩
 have c38 := not_eq_false_ bc38
 have c38 := of_decide_eq_true c38
 revert a;refine pO bc38 rfl (pO bc38 rfl (pO bc38 rfl (pP (p_pick_f rfl bc38 rfl) rfl (pL (pT (zf (pK (pT (pS (pG (pM 1 rfl ?_)))))))))))
 have hcon := dec.jb.run_ _ _ _ _ _ _ _ _ hs 0 (by decide) (by omega) H
 refine pC Tryz.func29 hcon ?_
 rintro e w ⟨m56, rfl, hm56, hH⟩
 refine ⟨_, rfl, ?_⟩
 clear H hcon; have H := hH; clear hH
 have gm56 := run_ge 0 (ints s) (run 10 (ints s) q)
 have lm56 := run_le (k := 0) (X := ints s) (p := (run 10 (ints s) q)) (by rw [ints_len]; omega)
 have hsl := ints_len s
 refine pL (pT (pS ?_));intro a S
 refine d_start (id := 12) [] 15 (bA 15 0) H rfl rfl rfl (fun w H => ?_)
 revert a;refine qM [0,1,4,5] rfl (qA 2 fa73_0 rfl rfl rfl rfl (qE 3 H rfl rfl rfl m0 rfl ag9 rfl (qA 6 fa73_1 rfl rfl rfl rfl (qE 7 H rfl rfl rfl m0 rfl ag3 rfl (qP 8 rfl (p_slice rfl (o_some rfl) (fun _ _ => o_none) (fun _ _ => o_none) (fun w => sl_string_lo Tryz.underlying9 (by omega) (by omega))) rfl ?_)))));intro a S
 simp only [Int.toNat_natCast] at S
 have hcon := dec.ja.end_ wb _ _ (s.extract ((run 0 (ints s) (run 10 (ints s) q))) (s.size)) (by rw [ByteArray.size_extract]; omega) H
 rw [show ints (s.extract ((run 0 (ints s) (run 10 (ints s) q))) (s.size)) = (ints s).drop ((run 0 (ints s) (run 10 (ints s) q))) by rw [ints_extract, ← ints_len, List.take_length], eol_drop (by rw [ints_len]; omega)] at hcon
 have hel := eol_le (X := ints s) (p := (run 0 (ints s) (run 10 (ints s) q))) (by rw [ints_len]; omega)
 have hsl := ints_len s
 refine d_call (i := 9) (bA 15 1023) S rfl rfl rfl Tryz.func67 rfl rfl hcon (wanted_none rfl) rfl rfl (by kernel_rfl) rfl ?_
 rintro e w ⟨rfl, hH⟩
 refine ⟨_, rfl, hH, ?_⟩;clear S a
 clear H hcon; have H := hH; clear hH
 refine qM [10,11,12,13,14] rfl (qD (pT (pS (pS (pG (pM 1 rfl (pP (p_not rfl) rfl (pL (pT (zc rfl (fun bc59 => ?_) (fun bc59 => ?_)))))))))))
 ·
  have c59 := not_eq_true_ bc59
  refine pS (pG (pM 2 rfl (pA fa73_1 rfl rfl rfl (pD H rfl rfl m0 rfl ag3 rfl (pM 1 rfl (pL (pT (pS (pG (pM 1 rfl ?_))))))))))
  have hcon := dec.jb.run_ _ _ _ _ _ _ _ _ hs 12 (by decide) (by omega) H
  refine pC Tryz.func29 hcon ?_
  rintro e w ⟨m60, rfl, hm60, hH⟩
  refine ⟨_, rfl, ?_⟩
  clear H hcon; have H := hH; clear hH
  have gm60 := run_ge 12 (ints s) (run 0 (ints s) (run 10 (ints s) q))
  have lm60 := run_le (k := 12) (X := ints s) (p := (run 0 (ints s) (run 10 (ints s) q))) (by rw [ints_len]; omega)
  have hsl := ints_len s
  refine pL (pT (pS (pG (pM 2 rfl ?_))))
  have hcon := dec.jc.fault_ _ _ _ _ _ _ _ _ hs ((run 0 (ints s) (run 10 (ints s) q))) (by omega) (by omega) H
  refine pC Tryz.func69 hcon ?_
  rintro e w ⟨lf61, kf61, rfl, hH⟩
  refine ⟨_, rfl, ?_⟩
  clear H hcon; have H := hH; clear hH
  rw [show fsec 3 = 4 from rfl] at H
  refine pM 2 rfl (pF [.bool true, .int .i64 lf61, .int .i64 kf61, .bool false] H rfl rfl sz38 (.there .here) ?_);clear H;intro w H
  refine pL (pT (pZ (pU ?_)))
  have hil := ints_len s
  have hgr := run_ge 10 (ints s) q
  have e1 : (run 0 (ints s) (run 10 (ints s) q)) = (run 10 (ints s) q) := run_end (by omega)
  have e2 : dc.eol (ints s) (run 0 (ints s) (run 10 (ints s) q)) = (true, 0, 0) := eol_end (by omega)
  intro a S
  exfalso; have := bc59; rw [e2] at this; cases this
 have c59 := not_eq_false_ bc59
 refine pK (pT (pS (pG (pM 2 rfl (pA fa73_1 rfl rfl rfl (pD H rfl rfl m0 rfl ag3 rfl (pM 1 rfl (pP (p_add rfl rfl (nat_add (x := (run 0 (ints s) (run 10 (ints s) q))) (y := ((dc.eol (ints s) ((run 0 (ints s) (run 10 (ints s) q)))).2.1)) (by omega))) rfl (pM 1 rfl (pA fa73_1 rfl rfl rfl (pE H rfl rfl rfl .here (by first | decide | simp [Value.cells]) sz3 ?_)))))))))));clear H;intro w H
 refine pL (pT (pS (pG (pM 2 rfl (pA fa73_2 rfl rfl rfl (pE H rfl rfl rfl .here (by first | decide | simp [Value.cells]) sz3 ?_))))));clear H;intro w H
 refine pL (pT (pS ?_));intro a S
 refine d_start (id := 19) [6] 7 (bA 7 0) H rfl rfl rfl (fun w H => ?_)
 revert a;refine qM [0,1,4] rfl (qP 2 rfl (p_sneq rfl rfl) rfl ?_);intro a S
 rw [sE] at S
 revert a;refine qM [5] rfl (qR 3 H rfl (r_loadn (m := 4) (vs := [.bool false, .int .i64 0, .int .i64 0, .bool false]) rfl m1 ag38 sz38 rfl rfl) rfl ?_);intro a S
 refine d_storeAll (i := 6) (vs := [.bool false, .int .i64 0, .int .i64 0, .bool false]) (bA 7 127) S H rfl rfl rfl rfl sz38 (.there .here) rfl (fun v hv => by simp only [List.mem_cons, List.not_mem_nil, or_false] at hv; rcases hv with rfl | rfl | rfl | rfl <;> rfl) (wanted_none rfl) rfl (by kernel_rfl) rfl ?_; clear S a H; intro w a H S
 revert a;refine qD (pT (pZ ?_))
 have hil := ints_len s
 have hgr := run_ge 10 (ints s) q
 have e1 : (run 0 (ints s) (run 10 (ints s) q)) = (run 10 (ints s) q) := run_end (by omega)
 have e2 : dc.eol (ints s) (run 0 (ints s) (run 10 (ints s) q)) = (true, 0, 0) := eol_end (by omega)
 rw [e2] at H
 simp only [Nat.add_zero] at H
 rw [e1] at H
 have hR : timeP (ints s) q 0 = ⟨(((ints s).take (run 10 (ints s) q)).drop q), none, (run 10 (ints s) q), 5, 0⟩ := (if_pos (by omega))
 intro a S
 rw [hR]
 exact r_retttc S rfl rfl rfl rfl (lva (cs := [.bool false, .int .i64 0, .int .i64 0, .bool false]) ag38 sz38 rfl H m1) ⟨_, _, _, _, rfl, (H.sub (.cons_cons _ ((.cons _ (.refl _)))))⟩
end je
end Go.Proofs.YtbahngfpadjbhaaGreatDoor.dec
end
