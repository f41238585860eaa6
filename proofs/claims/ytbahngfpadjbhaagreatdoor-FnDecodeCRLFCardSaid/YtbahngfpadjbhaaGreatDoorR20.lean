/- Part of the proof that FnDecodeCRLF answers true at every text, in every world that its card's statement admits; no condition beyond those. -/
import Derived.Test.YtbahngfpadjbhaaGreatDoorR18
import Derived.Test.YtbahngfpadjbhaaGreatDoorR19
import Derived.Test.YtbahngfpadjbhaaGreatDoorR05
import Derived.Test.YtbahngfpadjbhaaGreatDoorR04
set_option linter.unusedVariables false
set_option linter.unusedSimpArgs false
section
namespace Go.Proofs.YtbahngfpadjbhaaGreatDoor.dec
open Go.Proofs.YtbahngfpadjbhaaGreatDoor.fx
open Go.RowKit Go.Proofs.HHW Go.Proofs.YtbahngfpadjbhaaGreatDoorW.PrintWords Go.Proofs.YtbahngfpadjbhaaGreatDoor.dt
namespace jc
theorem zv3 : zvB Tryz.prog 3 = some (.int .i64 0) := by kernel_rfl
theorem sof_get {m : Nat} (hm : m < 5) : (#[Value.int .i64 5, .int .i64 2, .int .i64 6, .int .i64 7, .int .i64 8] : Array Value)[0 + (m : Int).toNat * 1]? = some (.int .i64 (sOf m : Int)) := by
 obtain rfl | rfl | rfl | rfl | rfl : m = 0 ∨ m = 1 ∨ m = 2 ∨ m = 3 ∨ m = 4 := by omega
 all_goals rfl
theorem sof_lt {m : Nat} (hm : m < 5) : sOf m < 14 := by
 obtain rfl | rfl | rfl | rfl | rfl : m = 0 ∨ m = 1 ∨ m = 2 ∨ m = 3 ∨ m = 4 := by omega
 all_goals decide
theorem esc_ (wb w0 : World) (L0 : dc.Bk) (m x : Nat) (hm : m < 5) (hx : x < 256) (H : HH wb.heap.size wb w0 L0) : Calls Tryz.prog 96 #[.int .i64 (m : Int), .int .u8 (x : Int)] w0 fun e w' => (∃ (dv : Int) (b : Bool), e = .returned (.tuple #[.int .u8 dv, .bool b]) ∧ b = decide (hOf m x ≠ 0) ∧ (hOf m x ≠ 0 → dv = (hOf m x : Int))) ∧ HH wb.heap.size wb w' L0 := by
 obtain rfl | rfl | rfl | rfl | rfl : m = 0 ∨ m = 1 ∨ m = 2 ∨ m = 3 ∨ m = 4 := by omega
 ·
  exact dec.ja.esc0 wb w0 L0 x hx H
 ·
  exact dec.ja.esc1 wb w0 L0 x hx H
 ·
  exact dec.ja.esc2 wb w0 L0 x hx H
 ·
  exact dec.ja.esc3 wb w0 L0 x hx H
 exact dec.ja.esc4 wb w0 L0 x hx H
theorem fault_ (wb w0 : World) (g : Nat) (s : ByteArray) (q : Nat) (part : Int) (fr : Nat) (L0 : dc.Bk) (hs : s.size ≤ 100000) (p : Nat) (hp : p ≤ s.size) (hfr : fr ≤ 100000) (H : HH wb.heap.size wb w0 ((g, Obj.cells #[.string s, .int .i64 ((q : Nat) : Int), .int .i64 part, .int .i64 ((fr : Nat) : Int)] 73 (0, 0)) :: L0)) : Calls Tryz.prog 69 #[.pointer (some ⟨g, 0, none⟩), .int .i64 (p : Int)] w0 fun e w' => ∃ l k : Int, e = .returned (.agg #[.bool true, .int .i64 l, .int .i64 k, .bool false]) ∧ HH wb.heap.size wb w' ((g, Obj.cells #[.string s, .int .i64 ((q : Nat) : Int), .int .i64 ((fsec part)), .int .i64 ((fr : Nat) : Int)] 73 (0, 0)) :: L0) := by
 refine c_enter (args := [.pointer (some ⟨g, 0, none⟩), .int .i64 (p : Int)]) (k := 14) Tryz.func69 rfl rfl rfl ?_
 refine pS (pG ?_);intro a S
 refine l_alloc (cs := #[.bool false, .int .i64 0, .int .i64 0, .bool false]) S H rfl (fun w => al zv38) rfl rfl rfl ?_; clear S a H; intro gf w a H S
 revert a;refine pL (pT (pS (pS (pG (pM 2 rfl (pA fa73_2 rfl rfl rfl (pD H rfl rfl m1 rfl ag3 rfl (pP (p_neq rfl rfl) rfl (pL (pT (zc rfl (fun bc2 => ?_) (fun bc2 => ?_))))))))))))
 ·
  have c2 := bne_iff_ne.1 bc2
  have hfs : fsec part = 4 := if_neg c2
  refine pG (pM 2 rfl (pA fa73_2 rfl rfl rfl (pE H rfl rfl rfl (.there .here) (by first | decide | simp [Value.cells]) sz3 ?_)));clear H;intro w H
  refine pL (pT (pS (pG (pM 2 rfl ?_))))
  replace H := HH.pull1 H
  have hcon := dec.jb.place_ _ _ _ _ _ _ _ _ hs p hp hfr H
  refine pC Tryz.func87 hcon ?_
  rintro e w ⟨l, k, rfl, hH⟩
  refine ⟨_, rfl, ?_⟩
  clear H hcon; have H := hH; clear hH
  refine pF [.bool true, .int .i64 l, .int .i64 k, .bool false] H rfl rfl sz38 (.there .here) ?_;clear H;intro w H
  refine pL (pT (pZ ?_));intro a S
  rw [hfs]
  refine r_retc1 S rfl rfl (lva (cs := [.bool true, .int .i64 l, .int .i64 k, .bool false]) ag38 sz38 rfl H m1) ⟨_, _, rfl, (H.sub (.cons_cons _ ((.cons _ (.refl _)))))⟩
 have c2 := bne_eq_false_iff_eq.1 bc2
 have hfs : fsec part = 5 := if_pos (by omega)
 refine pK (pT (pS (pG (pM 2 rfl ?_))))
 replace H := HH.pull1 H
 have hcon := dec.jb.place_ _ _ _ _ _ _ _ _ hs p hp hfr H
 refine pC Tryz.func87 hcon ?_
 rintro e w ⟨l, k, rfl, hH⟩
 refine ⟨_, rfl, ?_⟩
 clear H hcon; have H := hH; clear hH
 refine pF [.bool true, .int .i64 l, .int .i64 k, .bool false] H rfl rfl sz38 (.there .here) ?_;clear H;intro w H
 refine pL (pT (pZ ?_));intro a S
 rw [hfs]
 obtain rfl : part = 5 := by omega
 refine r_retc1 S rfl rfl (lva (cs := [.bool true, .int .i64 l, .int .i64 k, .bool false]) ag38 sz38 rfl H m1) ⟨_, _, rfl, (H.sub (.cons_cons _ ((.cons _ (.refl _)))))⟩
theorem sof_ (wb w0 : World) (L0 : dc.Bk) (m : Nat) (hm : m < 5) (H : HH wb.heap.size wb w0 L0) : Calls Tryz.prog 97 #[.int .i64 (m : Int)] w0 fun e w' => e = .returned (.int .i64 (sOf m : Int)) ∧ HH wb.heap.size wb w' L0 := by
 refine c_enter (args := [.int .i64 (m : Int)]) (k := 6) Tryz.func97 rfl rfl rfl ?_
 refine pS (pG (pM 1 rfl (pL (pT (pS (pG ?_))))));intro a S
 refine l_lit [(.const (.int .i64 5)), (.const (.int .i64 2)), (.const (.int .i64 6)), (.const (.int .i64 7)), (.const (.int .i64 8))] S H rfl rfl Tryz.underlying30 sz3 zv3 rfl rfl (by simp [Value.cells]) rfl rfl rfl ?_; clear S a H; intro g1 w a H S
 revert a;refine pM 1 rfl (pP (p_indexAddr rfl rfl (fun w => ia_slice Tryz.underlying30 sz3 (by omega) (by omega))) rfl (pR H (r_load rfl m0 (sof_get hm) (fun w hc => ld1 ag3 hc)) rfl (pM 1 rfl (pL (pT (pZ ?_))))));intro a S
 exact r_ret1 S rfl rfl ⟨rfl, H.tail⟩
set_option maxHeartbeats 1000000 in
theorem tokn_ (wb w0 : World) (L0 : dc.Bk) (m : Nat) (hm : m < 5) (s : ByteArray) (hs : s.size ≤ 100000) (H : HH wb.heap.size wb w0 L0) : Calls Tryz.prog 85 #[.int .i64 (m : Int), .string s] w0 fun e w' => e = .returned (.tuple #[.string (strOfNums (tk (sIn (sOf m)) (hOf m) (ints s)).1), .int .i64 ((tk (sIn (sOf m)) (hOf m) (ints s)).2 : Int)]) ∧ HH wb.heap.size wb w' L0 := by
 refine c_enter (args := [.int .i64 (m : Int), .string s]) (k := 52) Tryz.func85 rfl rfl rfl ?_
 refine pS (pG (pM 2 rfl (pL (pT (pS (pG (pM 1 rfl (pL (pT (pS (pB ?_)))))))))));intro a S
 refine c_loop (σ := Nat × List Int × Option Addr × Nat × dc.Bk) (fun s_ a w => match s_ with | ⟨q, acc, Ao, co, ow⟩ => SL a 54 [] [(0, .int .i64 (m : Int)), (1, .string s), (5, .int .i64 (q : Int)), (6, .slice Ao acc.length co)] ∧ HH (wb.heap.size) wb w (ow ++ L0) ∧ (OwnB 5 (.slice Ao acc.length co) acc ow ∧ q ≤ s.size ∧ acc.length ≤ q ∧ acc ++ (tk (sIn (sOf m)) (hOf m) ((ints s).drop q)).1 = (tk (sIn (sOf m)) (hOf m) (ints s)).1 ∧ q + (tk (sIn (sOf m)) (hOf m) ((ints s).drop q)).2 = (tk (sIn (sOf m)) (hOf m) (ints s)).2)) (fun s_ => match s_ with | ⟨q, acc, Ao, co, ow⟩ => s.size - q) ⟨0, [], none, 0, []⟩ ⟨S.only ⟨rfl, rfl, rfl, rfl, trivial⟩, H, ⟨ownB_nil 5, Nat.zero_le _, Nat.le_refl _, rfl, Nat.zero_add _⟩⟩ ?_
 clear S a H; rintro ⟨q, acc, Ao, co, ow⟩ a w ⟨S, H, hinv⟩
 obtain ⟨ho, hqs, hal, ht1, ht2⟩ := hinv
 have hil := ints_len s
 revert a;refine pS (pS (pG (pM 2 rfl (pP (p_lens Tryz.underlying9 rfl) rfl (pP (p_lss rfl rfl) rfl (pL (pT (zc rfl (fun bc2 => ?_) (fun bc2 => ?_)))))))))
 ·
  have c2 := of_decide_eq_true bc2
  refine pK (pT (pB (pS (pG (pM 2 rfl (pP (p_index rfl rfl (fun w => ix_string Tryz.underlying9 (by omega) (by omega))) rfl ?_))))))
  obtain ⟨b3, hb3, lb3, nb3, gb3⟩ := bt_natI s (((q : Nat) : Int)) (q) (by first | rfl | omega)
  intro a S
  rw [hb3] at S
  revert a;refine pM 1 rfl (pL (pT (pS (pS (pG (pM 1 rfl (pP (p_eql rfl rfl) rfl (pL (pT (zc rfl (fun bc5 => ?_) (fun bc5 => ?_)))))))))))
  ·
   have c5 := eq_of_beq bc5
   have hc92 : (ints s).getD q 0 = 92 := by omega
   refine pS (pG (pM 1 rfl (pP (p_add rfl rfl (nat_add (x := q) (y := 1) (by omega))) rfl (pM 1 rfl (pP (p_lens Tryz.underlying9 rfl) rfl (pP (p_lss rfl rfl) rfl (pL (pT (zc rfl (fun bc7 => ?_) (fun bc7 => ?_))))))))))
   ·
    have c7 := of_decide_eq_true bc7
    refine pS (pG (pM 3 rfl (pP (p_add rfl rfl (nat_add (x := q) (y := 1) (by omega))) rfl (pP (p_index rfl rfl (fun w => ix_string Tryz.underlying9 (by omega) (by omega))) rfl ?_))))
    obtain ⟨b8, hb8, lb8, nb8, gb8⟩ := bt_natI s ((((q + 1) : Nat) : Int)) ((q + 1)) (by first | rfl | omega)
    intro a S
    rw [hb8] at S
    have hcon := esc_ wb _ _ m b8 hm lb8 H
    revert a;refine pC Tryz.func96 hcon ?_
    rintro e w ⟨⟨dv, eb_, rfl, heb, hdv⟩, hH⟩
    refine ⟨_, rfl, ?_⟩
    clear H hcon; have H := hH; clear hH
    refine pM 5 rfl (pL (pT (pS (pG (pM 1 rfl (pL (pT (zc rfl (fun bc10 => ?_) (fun bc10 => ?_)))))))))
    ·
     have c10 := bc10
     have hne : (hOf m) b8 ≠ 0 := of_decide_eq_true (heb.symm.trans bc10)
     obtain rfl := hdv hne
     have htk := tk_esc (p := (sIn (sOf m))) (h := (hOf m)) (X := (ints s)) (q := q) (by omega) hc92 (by rw [nb8]; exact hne)
     rw [nb8] at htk
     refine pS (pG (pM 2 rfl ?_));intro a S
     refine l_lit [(.tmp 35)] S H rfl rfl Tryz.underlying23 sz5 zv5 rfl rfl (by simp [Value.cells]) rfl rfl rfl ?_; clear S a H; intro g11 w a H S
     refine l_ownB [_] (r := [((hOf m) b8 : Int)]) S H rfl rfl rfl ho (src_lit (vs := ([((hOf m) b8 : Int)]).map (Value.int .u8)) H m0 Tryz.underlying23 (by simp [Value.oneCell'])) Tryz.underlying23 in5 rfl (by simp only [List.length_cons, List.length_nil]; omega) (by decide) rfl rfl rfl ?_; clear S a H; intro Aow12 cow12 ow12 w a how12 H S; replace H := H.tail
     revert a;refine pM 1 rfl (pL (pT (pS (pG (pM 1 rfl (pP (p_add rfl rfl (nat_add (x := q) (y := 2) (by omega))) rfl (pM 1 rfl (pL (pT (pX (pV (pW (pT ?_)))))))))))))
     rw [htk] at ht1 ht2
     intro a S
     simp only at ht2
     exact ⟨⟨(q + 2), (acc ++ [((hOf m) b8 : Int)]), Aow12, cow12, ow12⟩, ⟨S.only ⟨rfl, rfl, rfl, rfl, trivial⟩, H, ⟨how12, by omega, by rw [List.length_append, List.length_singleton]; omega, by rw [List.append_assoc]; exact ht1, by omega⟩⟩, (by show s.size - _ < s.size - q; omega)⟩
    have c10 := bc10
    have hz : (hOf m) b8 = 0 := by
     have := of_decide_eq_false (heb.symm.trans bc10)
     omega
    have htk := tk_bs (p := (sIn (sOf m))) (h := (hOf m)) (X := (ints s)) (q := q) (by omega) hc92 (by rw [nb8]; exact hz)
    rw [show (92 : Int) = (b3 : Int) from by omega] at htk
    refine pK (pT (pS (pG (pM 2 rfl ?_))));intro a S
    refine l_lit [(.tmp 46)] S H rfl rfl Tryz.underlying23 sz5 zv5 rfl rfl (by simp [Value.cells]) rfl rfl rfl ?_; clear S a H; intro g13 w a H S
    refine l_ownB [_] (r := [(b3 : Int)]) S H rfl rfl rfl ho (src_lit (vs := ([(b3 : Int)]).map (Value.int .u8)) H m0 Tryz.underlying23 (by simp [Value.oneCell'])) Tryz.underlying23 in5 rfl (by simp only [List.length_cons, List.length_nil]; omega) (by decide) rfl rfl rfl ?_; clear S a H; intro Aow14 cow14 ow14 w a how14 H S; replace H := H.tail
    revert a;refine pM 1 rfl (pL (pT (pG (pM 1 rfl (pP (p_add rfl rfl (nat_add (x := q) (y := 1) (by omega))) rfl (pM 1 rfl (pL (pI 1 (pT ?_)))))))))
    rw [htk] at ht1 ht2
    intro a S
    simp only at ht2
    exact ⟨⟨(q + 1), (acc ++ [(b3 : Int)]), Aow14, cow14, ow14⟩, ⟨S.only ⟨rfl, rfl, rfl, rfl, trivial⟩, H, ⟨how14, by omega, by rw [List.length_append, List.length_singleton]; omega, by rw [List.append_assoc]; exact ht1, by omega⟩⟩, (by show s.size - _ < s.size - q; omega)⟩
   have c7 := of_decide_eq_false bc7
   have htk := tk_last (p := (sIn (sOf m))) (h := (hOf m)) (X := (ints s)) (q := q) (by omega) hc92
   have htn := tk_nil (p := (sIn (sOf m))) (h := (hOf m)) (X := (ints s)) (q := q + 1) (by omega)
   replace htk : tk (sIn (sOf m)) (hOf m) ((ints s).drop q) = (92 :: (tk (sIn (sOf m)) (hOf m) ((ints s).drop (q + 1))).1, (tk (sIn (sOf m)) (hOf m) ((ints s).drop (q + 1))).2 + 1) := by rw [htk, htn]
   rw [show (92 : Int) = (b3 : Int) from by omega] at htk
   refine pK (pT (pS (pG (pM 2 rfl ?_))));intro a S
   refine l_lit [(.tmp 46)] S H rfl rfl Tryz.underlying23 sz5 zv5 rfl rfl (by simp [Value.cells]) rfl rfl rfl ?_; clear S a H; intro g15 w a H S
   refine l_ownB [_] (r := [(b3 : Int)]) S H rfl rfl rfl ho (src_lit (vs := ([(b3 : Int)]).map (Value.int .u8)) H m0 Tryz.underlying23 (by simp [Value.oneCell'])) Tryz.underlying23 in5 rfl (by simp only [List.length_cons, List.length_nil]; omega) (by decide) rfl rfl rfl ?_; clear S a H; intro Aow16 cow16 ow16 w a how16 H S; replace H := H.tail
   revert a;refine pM 1 rfl (pL (pT (pG (pM 1 rfl (pP (p_add rfl rfl (nat_add (x := q) (y := 1) (by omega))) rfl (pM 1 rfl (pL (pI 1 (pT ?_)))))))))
   rw [htk] at ht1 ht2
   intro a S
   simp only at ht2
   exact ⟨⟨(q + 1), (acc ++ [(b3 : Int)]), Aow16, cow16, ow16⟩, ⟨S.only ⟨rfl, rfl, rfl, rfl, trivial⟩, H, ⟨how16, by omega, by rw [List.length_append, List.length_singleton]; omega, by rw [List.append_assoc]; exact ht1, by omega⟩⟩, (by show s.size - _ < s.size - q; omega)⟩
  have c5 := ne_of_beq_false bc5
  have hc92 : (ints s).getD q 0 ≠ 92 := by omega
  refine pS (pG (pM 1 rfl ?_))
  have hcon := sof_ wb _ _ m hm H
  have hsO := sof_lt hm
  refine pC Tryz.func97 hcon ?_
  rintro e w ⟨rfl, hH⟩
  refine ⟨_, rfl, ?_⟩
  clear H hcon; have H := hH; clear hH
  refine pM 1 rfl ?_
  have hcon := dec.ja.in_ wb _ _ ((sOf m)) b3 (by first | omega | exact hsO) H
  refine pC Tryz.func66 hcon ?_
  rintro e w ⟨rfl, hH⟩
  refine ⟨_, rfl, ?_⟩
  clear H hcon; have H := hH; clear hH
  refine pP (p_not rfl) rfl (pL (pT (zc rfl (fun bc19 => ?_) (fun bc19 => ?_))))
  ·
   have c19 := not_eq_true_ bc19
   have htk := tk_stop (p := (sIn (sOf m))) (h := (hOf m)) (X := (ints s)) (q := q) (by omega) hc92 (by rw [nb3]; simpa using bc19)
   refine pX (pV (pY rfl (pV (pW (pT (pS (pG (pM 1 rfl ?_))))))))
   rw [htk] at ht1 ht2
   simp only [List.append_nil, Nat.add_zero] at ht1 ht2
   refine pR H (r_str (l := acc) rfl Tryz.underlying23 Tryz.underlying5 Tryz.underlying9 (fun w H => Own.bytes ho H (by omega))) rfl (pM 3 rfl (pL (pT (pZ ?_))));intro a S
   rw [← ht1, ← ht2]
   exact r_ret2 S rfl rfl rfl ⟨rfl, H.bring⟩
  have c19 := not_eq_false_ bc19
  have htk := tk_ord (p := (sIn (sOf m))) (h := (hOf m)) (X := (ints s)) (q := q) (by omega) hc92 (by rw [nb3]; simpa using bc19)
  rw [gb3] at htk
  refine pK (pT (pS (pG (pM 2 rfl ?_))));intro a S
  refine l_lit [(.tmp 46)] S H rfl rfl Tryz.underlying23 sz5 zv5 rfl rfl (by simp [Value.cells]) rfl rfl rfl ?_; clear S a H; intro g20 w a H S
  refine l_ownB [_] (r := [(b3 : Int)]) S H rfl rfl rfl ho (src_lit (vs := ([(b3 : Int)]).map (Value.int .u8)) H m0 Tryz.underlying23 (by simp [Value.oneCell'])) Tryz.underlying23 in5 rfl (by simp only [List.length_cons, List.length_nil]; omega) (by decide) rfl rfl rfl ?_; clear S a H; intro Aow21 cow21 ow21 w a how21 H S; replace H := H.tail
  revert a;refine pM 1 rfl (pL (pT (pG (pM 1 rfl (pP (p_add rfl rfl (nat_add (x := q) (y := 1) (by omega))) rfl (pM 1 rfl (pL (pI 1 (pT ?_)))))))))
  rw [htk] at ht1 ht2
  intro a S
  simp only at ht2
  exact ⟨⟨(q + 1), (acc ++ [(b3 : Int)]), Aow21, cow21, ow21⟩, ⟨S.only ⟨rfl, rfl, rfl, rfl, trivial⟩, H, ⟨how21, by omega, by rw [List.length_append, List.length_singleton]; omega, by rw [List.append_assoc]; exact ht1, by omega⟩⟩, (by show s.size - _ < s.size - q; omega)⟩
 have c2 := of_decide_eq_false bc2
 have htk := tk_nil (p := (sIn (sOf m))) (h := (hOf m)) (X := (ints s)) (q := q) (by omega)
 refine pX (pV (pV (pW (pT (pS (pG (pM 1 rfl ?_)))))))
 rw [htk] at ht1 ht2
 simp only [List.append_nil, Nat.add_zero] at ht1 ht2
 refine pR H (r_str (l := acc) rfl Tryz.underlying23 Tryz.underlying5 Tryz.underlying9 (fun w H => Own.bytes ho H (by omega))) rfl (pM 3 rfl (pL (pT (pZ ?_))));intro a S
 rw [← ht1, ← ht2]
 exact r_ret2 S rfl rfl rfl ⟨rfl, H.bring⟩
theorem token_ (wb w0 : World) (g : Nat) (s : ByteArray) (q : Nat) (part : Int) (fr : Nat) (L0 : dc.Bk) (hs : s.size ≤ 100000) (m : Nat) (hm : m < 5) (hq : q ≤ s.size) (hfr : fr ≤ 100000) (H : HH wb.heap.size wb w0 ((g, Obj.cells #[.string s, .int .i64 ((q : Nat) : Int), .int .i64 part, .int .i64 ((fr : Nat) : Int)] 73 (0, 0)) :: L0)) : Calls Tryz.prog 68 #[.pointer (some ⟨g, 0, none⟩), .int .i64 (m : Int)] w0 fun e w' => (val (tkT m (sOf m) (ints s) q) = true ∧ e = .returned (.tuple #[.string (strOfNums (tkT m (sOf m) (ints s) q)), (.agg #[.bool false, .int .i64 0, .int .i64 0, .bool false])]) ∧ HH wb.heap.size wb w' ((g, Obj.cells #[.string s, .int .i64 (((tkQ m (sOf m) (ints s) q) : Nat) : Int), .int .i64 part, .int .i64 ((fr : Nat) : Int)] 73 (0, 0)) :: L0)) ∨ (val (tkT m (sOf m) (ints s) q) = false ∧ ∃ l k : Int, e = .returned (.tuple #[.string ⟨#[]⟩, (.agg #[.bool true, .int .i64 l, .int .i64 k, .bool false])]) ∧ HH wb.heap.size wb w' ((g, Obj.cells #[.string s, .int .i64 (((tkQ m (sOf m) (ints s) q) : Nat) : Int), .int .i64 ((fsec part)), .int .i64 ((fr : Nat) : Int)] 73 (0, 0)) :: L0)) := by
 refine c_enter (args := [.pointer (some ⟨g, 0, none⟩), .int .i64 (m : Int)]) (k := 37) Tryz.func68 rfl rfl rfl ?_
 refine pS (pG (pM 1 rfl ?_));intro a S
 refine l_alloc (cs := #[.bool false, .int .i64 0, .int .i64 0, .bool false]) S H rfl (fun w => al zv38) rfl rfl rfl ?_; clear S a H; intro gf w a H S
 revert a;refine pL (pT (pS (pG (pM 2 rfl (pA fa73_1 rfl rfl rfl (pD H rfl rfl m1 rfl ag3 rfl (pM 1 rfl (pL (pT (pS (pG (pM 3 rfl (pA fa73_0 rfl rfl rfl (pD H rfl rfl m1 rfl ag9 rfl (pM 1 rfl (pP (p_slice rfl (o_some rfl) (fun _ _ => o_none) (fun _ _ => o_none) (fun w => sl_string_lo Tryz.underlying9 (by omega) (by omega))) rfl ?_))))))))))))))));intro a S
 simp only [Int.toNat_natCast] at S
 have hcon := tokn_ wb _ _ m hm (s.extract (q) (s.size)) (by rw [ByteArray.size_extract]; omega) H
 have hil := ints_len s
 rw [show ints (s.extract (q) (s.size)) = (ints s).drop q by rw [ints_extract, ← ints_len, List.take_length]] at hcon
 rw [show hOf m = tabH (ints (escS m)) from rfl] at hcon
 have htq := tkQ_le (k := m) (s := sOf m) (X := (ints s)) (p := q) (by omega)
 have htl := tkT_len m (sOf m) (ints s) q
 revert a;refine pC Tryz.func85 hcon ?_
 rintro e w ⟨rfl, hH⟩
 refine ⟨_, rfl, ?_⟩
 clear H hcon; have H := hH; clear hH
 refine pM 5 rfl (pL (pT (pS (pG (pM 2 rfl (pA fa73_1 rfl rfl rfl (pD H rfl rfl m1 rfl ag3 rfl (pM 1 rfl (pP (p_add (r := (((tkQ m (sOf m) (ints s) q) : Nat) : Int)) rfl rfl ((IntWalk.i64_in _ (by unfold tkQ at htq; omega)).trans (by unfold tkQ; omega))) rfl (pM 1 rfl (pA fa73_1 rfl rfl rfl (pE H rfl rfl rfl (.there .here) (by first | decide | simp [Value.cells]) sz3 ?_))))))))))));clear H;intro w H
 refine pL (pT (pS (pS (pG (pM 1 rfl ?_)))))
 have hcon := u8.utf8_ wb _ _ _ (strOfNums (tkT m (sOf m) (ints s) q)) H (by rw [nums_size]; omega)
 refine pC Tryz.func86 hcon ?_
 rintro e w ⟨rfl, hH⟩
 refine ⟨_, rfl, ?_⟩
 clear H hcon; have H := hH; clear hH
 refine pP (p_not rfl) rfl (pL (pT (zc rfl (fun bc3 => ?_) (fun bc3 => ?_))))
 ·
  have c3 := not_eq_true_ bc3
  refine pS (pG (pM 2 rfl ?_))
  replace H := HH.pull1 H
  have hcon := dec.jc.fault_ _ _ _ _ _ _ _ _ hs (q) (by omega) (by omega) H
  refine pC Tryz.func69 hcon ?_
  rintro e w ⟨lf4, kf4, rfl, hH⟩
  refine ⟨_, rfl, ?_⟩
  clear H hcon; have H := hH; clear hH
  refine pM 1 rfl (pF [.bool true, .int .i64 lf4, .int .i64 kf4, .bool false] H rfl rfl sz38 (.there .here) ?_);clear H;intro w H
  refine pL (pT (pZ (pU ?_)));intro a S
  exact r_rettc S rfl rfl rfl (lva (cs := [.bool true, .int .i64 lf4, .int .i64 kf4, .bool false]) ag38 sz38 rfl H m1) (.inr ⟨by simpa [val] using bc3, _, _, rfl, (H.sub (.cons_cons _ ((.cons _ (.refl _)))))⟩)
 have c3 := not_eq_false_ bc3
 refine pK (pT (pS ?_));intro a S
 refine d_start (id := 6) [3] 4 (bA 4 0) H rfl rfl rfl (fun w H => ?_)
 revert a;refine qM [0,2] rfl (qR 1 H rfl (r_loadn (m := 4) (vs := [.bool false, .int .i64 0, .int .i64 0, .bool false]) rfl m0 ag38 sz38 rfl rfl) rfl ?_);intro a S
 refine d_storeAll (i := 3) (vs := [.bool false, .int .i64 0, .int .i64 0, .bool false]) (bA 4 15) S H rfl rfl rfl rfl sz38 .here rfl (fun v hv => by simp only [List.mem_cons, List.not_mem_nil, or_false] at hv; rcases hv with rfl | rfl | rfl | rfl <;> rfl) (wanted_none rfl) rfl (by kernel_rfl) rfl ?_; clear S a H; intro w a H S
 revert a;refine qD (pT (pZ ?_));intro a S
 exact r_rettc S rfl rfl rfl (lva (cs := [.bool false, .int .i64 0, .int .i64 0, .bool false]) ag38 sz38 rfl H m0) (.inl ⟨by simpa [val] using bc3, rfl, ((HH.pull1 H).sub (.cons_cons _ ((.cons _ (.refl _)))))⟩)
theorem behind_ (wb w0 : World) (g : Nat) (s : ByteArray) (q : Nat) (part : Int) (fr : Nat) (L0 : dc.Bk) (hs : s.size ≤ 100000) (hq : q ≤ s.size) (hfr : fr ≤ 100000) (H : HH wb.heap.size wb w0 ((g, Obj.cells #[.string s, .int .i64 ((q : Nat) : Int), .int .i64 part, .int .i64 ((fr : Nat) : Int)] 73 (0, 0)) :: L0)) : Calls Tryz.prog 70 #[.pointer (some ⟨g, 0, none⟩)] w0 fun e w' => ((comma (ints s) q).2 = true ∧ ∃ l k : Int, e = .returned (.agg #[.bool true, .int .i64 l, .int .i64 k, .bool false]) ∧ HH wb.heap.size wb w' ((g, Obj.cells #[.string s, .int .i64 (((comma (ints s) q).1 : Nat) : Int), .int .i64 ((fsec part)), .int .i64 ((fr : Nat) : Int)] 73 (0, 0)) :: L0)) ∨ ((comma (ints s) q).2 = false ∧ e = .returned (.agg #[.bool false, .int .i64 0, .int .i64 0, .bool false]) ∧ HH wb.heap.size wb w' ((g, Obj.cells #[.string s, .int .i64 (((comma (ints s) q).1 : Nat) : Int), .int .i64 part, .int .i64 ((fr : Nat) : Int)] 73 (0, 0)) :: L0)) := by
 refine c_enter (args := [.pointer (some ⟨g, 0, none⟩)]) (k := 37) Tryz.func70 rfl rfl rfl ?_
 refine pS (pG ?_);intro a S
 refine l_alloc (cs := #[.bool false, .int .i64 0, .int .i64 0, .bool false]) S H rfl (fun w => al zv38) rfl rfl rfl ?_; clear S a H; intro gf w a H S
 revert a;refine pL (pT (pS (pS ?_)))
 replace H := HH.pull1 H
 intro a S
 refine d_start (id := 1) [] 15 (bA 15 0) H rfl rfl rfl (fun w H => ?_)
 revert a;refine qM [0] rfl ?_
 have hcon := dec.jb.done_ _ _ _ _ _ _ _ _ hs H
 intro a S
 refine d_call (i := 1) (bA 15 3) S rfl rfl rfl Tryz.func31 rfl rfl hcon (wanted_none rfl) rfl rfl (by kernel_rfl) rfl ?_
 rintro e w ⟨rfl, hH⟩
 refine ⟨_, rfl, hH, ?_⟩;clear S a
 clear H hcon; have H := hH; clear hH
 refine qP 2 rfl (p_not rfl) rfl (qM [3] rfl ?_);intro a S
 refine d_split (S.of 6 rfl) (fun bc3 => ?_) (fun bc3 => ?_)
 ·
  have c3 := not_eq_true_ bc3
  have c3 := of_decide_eq_false c3
  revert a;refine qW 4 rfl (p_move rfl) bc3 rfl (qW 5 rfl (p_nilCheck rfl) bc3 rfl (qX 6 fa73_0 rfl rfl rfl bc3 rfl (qF 7 H rfl rfl rfl m0 rfl ag9 bc3 rfl (qW 8 rfl (p_move rfl) bc3 rfl (qW 9 rfl (p_nilCheck rfl) bc3 rfl (qX 10 fa73_1 rfl rfl rfl bc3 rfl (qF 11 H rfl rfl rfl m0 rfl ag3 bc3 rfl (qW 12 rfl (p_index rfl rfl (fun w => ix_string Tryz.underlying9 (by omega) (by omega))) bc3 rfl ?_))))))))
  obtain ⟨b4, hb4, lb4, nb4, gb4⟩ := bt_natI s (((q : Nat) : Int)) (q) (by first | rfl | omega)
  intro a S
  rw [hb4] at S
  revert a;refine qW 13 rfl (p_eql rfl rfl) bc3 rfl (qP 14 rfl (p_pick_t rfl bc3 rfl) rfl (qD (pT (zc rfl (fun bc6 => ?_) (fun bc6 => ?_)))))
  ·
   have c6 := eq_of_beq bc6
   have hil := ints_len s
   have hR0 : comma (ints s) q = (q + 1, decide ((ints s).length ≤ q + 1) || sIn 1 ((ints s).getD (q + 1) 0).toNat) := if_pos ⟨by omega, by omega⟩
   refine pS (pG (pM 2 rfl (pA fa73_1 rfl rfl rfl (pD H rfl rfl m0 rfl ag3 rfl (pP (p_add rfl rfl (nat_add (x := q) (y := 1) (by omega))) rfl (pM 1 rfl (pA fa73_1 rfl rfl rfl (pE H rfl rfl rfl .here (by first | decide | simp [Value.cells]) sz3 ?_))))))));clear H;intro w H
   refine pL (pT (pS (pG (pM 1 rfl ?_))))
   have hcon := dec.jb.done_ _ _ _ _ _ _ _ _ hs H
   refine pC Tryz.func31 hcon ?_
   rintro e w ⟨rfl, hH⟩
   refine ⟨_, rfl, ?_⟩
   clear H hcon; have H := hH; clear hH
   refine pM 1 rfl ?_;intro a S
   refine l_split (S.of 27 rfl) (fun bc8 => ?_) (fun bc8 => ?_)
   ·
    have c8 := of_decide_eq_true bc8
    revert a;refine pO bc8 rfl (pO bc8 rfl (pP (p_pick_t rfl bc8 rfl) rfl (pL (pT (zt (pS (pG (pM 3 rfl (pA fa73_1 rfl rfl rfl (pD H rfl rfl m0 rfl ag3 rfl ?_))))))))))
    have hcon := dec.jc.fault_ _ _ _ _ _ _ _ _ hs ((q + 1)) (by omega) (by omega) H
    refine pC Tryz.func69 hcon ?_
    rintro e w ⟨lf11, kf11, rfl, hH⟩
    refine ⟨_, rfl, ?_⟩
    clear H hcon; have H := hH; clear hH
    refine pF [.bool true, .int .i64 lf11, .int .i64 kf11, .bool false] H rfl rfl sz38 (.there .here) ?_;clear H;intro w H
    refine pL (pT (pZ (pU ?_)))
    have hR : comma (ints s) q = (q + 1, true) := hR0.trans (by rw [decide_eq_true (by omega)]; rfl)
    intro a S
    rw [hR]
    exact r_retc1 S rfl rfl (lva (cs := [.bool true, .int .i64 lf11, .int .i64 kf11, .bool false]) ag38 sz38 rfl H m1) (.inl ⟨rfl, _, _, rfl, (H.sub (.cons_cons _ ((.cons _ (.refl _)))))⟩)
   have c8 := of_decide_eq_false bc8
   revert a;refine pN bc8 (pP (p_move rfl) rfl (pN bc8 ?_))
   have hcon := dec.jb.next_ _ _ _ _ _ _ _ _ hs 1 (by decide) H
   refine pC Tryz.func65 hcon ?_
   rintro e w ⟨n12, rfl, hn12, hH⟩
   refine ⟨_, rfl, ?_⟩
   clear H hcon; have H := hH; clear hH
   refine pP (p_pick_f rfl bc8 rfl) rfl (pL (pT (zc rfl (fun bc14 => ?_) (fun bc14 => ?_))))
   ·
    have c14 := bc14
    refine pS (pG (pM 3 rfl (pA fa73_1 rfl rfl rfl (pD H rfl rfl m0 rfl ag3 rfl ?_))))
    have hcon := dec.jc.fault_ _ _ _ _ _ _ _ _ hs ((q + 1)) (by omega) (by omega) H
    refine pC Tryz.func69 hcon ?_
    rintro e w ⟨lf15, kf15, rfl, hH⟩
    refine ⟨_, rfl, ?_⟩
    clear H hcon; have H := hH; clear hH
    refine pF [.bool true, .int .i64 lf15, .int .i64 kf15, .bool false] H rfl rfl sz38 (.there .here) ?_;clear H;intro w H
    refine pL (pT (pZ (pU ?_)))
    have hR : comma (ints s) q = (q + 1, true) := hR0.trans (by rw [(hn12.1 bc14).2]; simp)
    intro a S
    rw [hR]
    exact r_retc1 S rfl rfl (lva (cs := [.bool true, .int .i64 lf15, .int .i64 kf15, .bool false]) ag38 sz38 rfl H m1) (.inl ⟨rfl, _, _, rfl, (H.sub (.cons_cons _ ((.cons _ (.refl _)))))⟩)
   have c14 := bc14
   refine pK (pT (pS (pG (pR H (r_loadn (m := 4) (vs := [.bool false, .int .i64 0, .int .i64 0, .bool false]) rfl m1 ag38 sz38 rfl rfl) rfl (pF [.bool false, .int .i64 0, .int .i64 0, .bool false] H rfl rfl sz38 (.there .here) ?_)))));clear H;intro w H
   refine pL (pT (pZ ?_))
   have hw0 : sIn 1 ((ints s).getD (q + 1) 0).toNat = false := by
    cases hc : sIn 1 ((ints s).getD (q + 1) 0).toNat with
    | false => rfl
    | true => exact absurd (hn12.2 ⟨by omega, hc⟩) (by rw [bc14]; decide)
   have hR : comma (ints s) q = (q + 1, false) := hR0.trans (by rw [decide_eq_false (by omega), hw0]; rfl)
   intro a S
   rw [hR]
   exact r_retc1 S rfl rfl (lva (cs := [.bool false, .int .i64 0, .int .i64 0, .bool false]) ag38 sz38 rfl H m1) (.inr ⟨rfl, rfl, (H.sub (.cons_cons _ ((.cons _ (.refl _)))))⟩)
  have c6 := ne_of_beq_false bc6
  refine pK (pT (pS (pG (pR H (r_loadn (m := 4) (vs := [.bool false, .int .i64 0, .int .i64 0, .bool false]) rfl m1 ag38 sz38 rfl rfl) rfl (pF [.bool false, .int .i64 0, .int .i64 0, .bool false] H rfl rfl sz38 (.there .here) ?_)))));clear H;intro w H
  refine pL (pT (pZ ?_))
  have hil := ints_len s
  have hR : comma (ints s) q = (q, false) := if_neg (fun h => by omega)
  intro a S
  rw [hR]
  exact r_retc1 S rfl rfl (lva (cs := [.bool false, .int .i64 0, .int .i64 0, .bool false]) ag38 sz38 rfl H m1) (.inr ⟨rfl, rfl, (H.sub (.cons_cons _ ((.cons _ (.refl _)))))⟩)
 have c3 := not_eq_false_ bc3
 have c3 := of_decide_eq_true c3
 revert a;refine qO 4 rfl bc3 rfl (qO 5 rfl bc3 rfl (qO 6 rfl bc3 rfl (qO 7 rfl bc3 rfl (qO 8 rfl bc3 rfl (qO 9 rfl bc3 rfl (qO 10 rfl bc3 rfl (qO 11 rfl bc3 rfl (qO 12 rfl bc3 rfl (qO 13 rfl bc3 rfl (qP 14 rfl (p_pick_f rfl bc3 rfl) rfl (qD (pT (zf (pK (pT (pS (pG (pR H (r_loadn (m := 4) (vs := [.bool false, .int .i64 0, .int .i64 0, .bool false]) rfl m1 ag38 sz38 rfl rfl) rfl (pF [.bool false, .int .i64 0, .int .i64 0, .bool false] H rfl rfl sz38 (.there .here) ?_)))))))))))))))))));clear H;intro w H
 refine pL (pT (pZ ?_))
 have hil := ints_len s
 have hR : comma (ints s) q = (q, false) := if_neg (fun h => by omega)
 intro a S
 rw [hR]
 exact r_retc1 S rfl rfl (lva (cs := [.bool false, .int .i64 0, .int .i64 0, .bool false]) ag38 sz38 rfl H m1) (.inr ⟨rfl, rfl, (H.sub (.cons_cons _ ((.cons _ (.refl _)))))⟩)
theorem skip_ (wb w0 : World) (g : Nat) (s : ByteArray) (q : Nat) (part : Int) (fr : Nat) (L0 : dc.Bk) (hs : s.size ≤ 100000) (t : Int) (ht : t ≤ part ∨ 4 ≤ part) (H : HH wb.heap.size wb w0 ((g, Obj.cells #[.string s, .int .i64 ((q : Nat) : Int), .int .i64 part, .int .i64 ((fr : Nat) : Int)] 73 (0, 0)) :: L0)) : Calls Tryz.prog 28 #[.pointer (some ⟨g, 0, none⟩), .int .i64 t] w0 fun e w' => e = .returned (.agg #[.bool false, .int .i64 0, .int .i64 0, .bool false]) ∧ HH wb.heap.size wb w' ((g, Obj.cells #[.string s, .int .i64 ((q : Nat) : Int), .int .i64 part, .int .i64 ((fr : Nat) : Int)] 73 (0, 0)) :: L0) := by
 refine c_enter (args := [.pointer (some ⟨g, 0, none⟩), .int .i64 t]) (k := 79) Tryz.func28 rfl rfl rfl ?_
 refine pS (pG ?_);intro a S
 refine l_alloc (cs := #[.bool false, .int .i64 0, .int .i64 0, .bool false]) S H rfl (fun w => al zv38) rfl rfl rfl ?_; clear S a H; intro gf w a H S
 revert a;refine pL (pT (pS (pS (pG (pM 2 rfl (pA fa73_2 rfl rfl rfl (pD H rfl rfl m1 rfl ag3 rfl (pP (p_eql rfl rfl) rfl (pM 1 rfl ?_)))))))));intro a S
 refine l_split (S.of 10 rfl) (fun bc2 => ?_) (fun bc2 => ?_)
 ·
  have c2 := eq_of_beq bc2
  revert a;refine pN bc2 (pP (p_move rfl) rfl (pN bc2 (pP (p_gtr rfl rfl) rfl (pP (p_pick_t rfl bc2 rfl) rfl (pL (pT ?_))))));intro a S
  refine c_cond S rfl (fun c4 => by have c4 := of_decide_eq_true c4; exfalso; omega) (fun c4 => ?_)
  have c4 := of_decide_eq_false c4
  revert a;refine pK (pT (pS (pB ?_)));intro a S
  refine c_loop (σ := Unit) (fun s_ a w => match s_ with | _ => SL a 81 [] [(0, .pointer (some ⟨g, 0, none⟩)), (1, .int .i64 t), (4, .pointer (some ⟨gf, 0, none⟩))] ∧ HH (wb.heap.size) wb w ((gf, Obj.cells #[.bool false, .int .i64 0, .int .i64 0, .bool false] 38 (0, 0)) :: (g, Obj.cells #[.string s, .int .i64 ((q : Nat) : Int), .int .i64 part, .int .i64 ((fr : Nat) : Int)] 73 (0, 0)) :: L0) ∧ (True)) (fun s_ => match s_ with | _ => 0) () ⟨S.only ⟨rfl, rfl, rfl, trivial⟩, H, trivial⟩ ?_
  clear S a H; rintro _ a w ⟨S, H, hinv⟩
  revert a;refine pS (pS (pG (pA fa38_0 rfl rfl rfl (pD H rfl rfl m0 rfl ag4 rfl (pP (p_not rfl) rfl (pM 1 rfl (pN rfl (pP (p_move rfl) rfl (pN rfl (pP (p_nilCheck rfl) rfl (pN rfl (pA fa73_2 rfl rfl rfl (pN rfl (pD H rfl rfl m1 rfl ag3 rfl (pN rfl (pP (p_eql rfl rfl) rfl (pP (p_pick_t rfl rfl rfl) rfl (pM 1 rfl ?_))))))))))))))))));intro a S
  refine l_split (S.of 30 rfl) (fun bc8 => ?_) (fun bc8 => ?_)
  ·
   have c8 := eq_of_beq bc8
   revert a;refine pN bc8 (pP (p_move rfl) rfl (pN bc8 (pP (p_gtr rfl rfl) rfl (pP (p_pick_t rfl bc8 rfl) rfl (pL (pT ?_))))));intro a S
   refine c_cond S rfl (fun c10 => by have c10 := of_decide_eq_true c10; exfalso; omega) (fun c10 => ?_)
   have c10 := of_decide_eq_false c10
   revert a;refine pX (pV (pV (pW (pT (pS (pB ?_))))));intro a S
   refine c_loop (σ := Unit) (fun s_ a w => match s_ with | _ => SL a 81 [] [(0, .pointer (some ⟨g, 0, none⟩)), (1, .int .i64 t), (4, .pointer (some ⟨gf, 0, none⟩))] ∧ HH (wb.heap.size) wb w ((gf, Obj.cells #[.bool false, .int .i64 0, .int .i64 0, .bool false] 38 (0, 0)) :: (g, Obj.cells #[.string s, .int .i64 ((q : Nat) : Int), .int .i64 part, .int .i64 ((fr : Nat) : Int)] 73 (0, 0)) :: L0) ∧ (True)) (fun s_ => match s_ with | _ => 0) () ⟨S.only ⟨rfl, rfl, rfl, trivial⟩, H, trivial⟩ ?_
   clear S a H; rintro _ a w ⟨S, H, hinv⟩
   revert a;refine pS (pS (pG (pA fa38_0 rfl rfl rfl (pD H rfl rfl m0 rfl ag4 rfl (pP (p_not rfl) rfl (pM 1 rfl (pN rfl (pP (p_move rfl) rfl (pN rfl (pP (p_nilCheck rfl) rfl (pN rfl (pA fa73_2 rfl rfl rfl (pN rfl (pD H rfl rfl m1 rfl ag3 rfl (pN rfl (pP (p_eql rfl rfl) rfl (pP (p_pick_t rfl rfl rfl) rfl (pM 1 rfl ?_))))))))))))))))));intro a S
   refine l_split (S.of 50 rfl) (fun bc14 => ?_) (fun bc14 => ?_)
   ·
    have c14 := eq_of_beq bc14
    revert a;refine pN bc14 (pP (p_move rfl) rfl (pN bc14 (pP (p_gtr rfl rfl) rfl (pP (p_pick_t rfl bc14 rfl) rfl (pL (pT ?_))))));intro a S
    refine c_cond S rfl (fun c16 => by have c16 := of_decide_eq_true c16; exfalso; omega) (fun c16 => ?_)
    have c16 := of_decide_eq_false c16
    revert a;refine pX (pV (pV (pW (pT (pS (pS (pG (pA fa38_0 rfl rfl rfl (pD H rfl rfl m0 rfl ag4 rfl (pP (p_not rfl) rfl (pM 1 rfl (pN rfl (pP (p_move rfl) rfl (pN rfl (pP (p_nilCheck rfl) rfl (pN rfl (pA fa73_2 rfl rfl rfl (pN rfl (pD H rfl rfl m1 rfl ag3 rfl (pN rfl (pP (p_eql rfl rfl) rfl (pP (p_pick_t rfl rfl rfl) rfl (pM 1 rfl ?_)))))))))))))))))))))));intro a S
    refine l_split (S.of 70 rfl) (fun bc20 => ?_) (fun bc20 => ?_)
    ·
     have c20 := eq_of_beq bc20
     revert a;refine pN bc20 (pP (p_move rfl) rfl (pN bc20 (pP (p_gtr rfl rfl) rfl (pP (p_pick_t rfl bc20 rfl) rfl (pL (pT ?_))))));intro a S
     refine c_cond S rfl (fun c22 => by have c22 := of_decide_eq_true c22; exfalso; omega) (fun c22 => ?_)
     have c22 := of_decide_eq_false c22
     revert a;refine pK (pT (pS (pG (pR H (r_loadn (m := 4) (vs := [.bool false, .int .i64 0, .int .i64 0, .bool false]) rfl m0 ag38 sz38 rfl rfl) rfl (pF [.bool false, .int .i64 0, .int .i64 0, .bool false] H rfl rfl sz38 .here ?_)))));clear H;intro w H
     refine pL (pT (pZ ?_));intro a S
     refine r_retc1 S rfl rfl (lva (cs := [.bool false, .int .i64 0, .int .i64 0, .bool false]) ag38 sz38 rfl H m0) ⟨rfl, ((HH.pull1 H).sub (.cons_cons _ ((.cons _ (.refl _)))))⟩
    have c20 := ne_of_beq_false bc20
    revert a;refine pO bc20 rfl (pO bc20 rfl (pP (p_pick_f rfl bc20 rfl) rfl (pL (pT (zf (pK (pT (pS (pG (pR H (r_loadn (m := 4) (vs := [.bool false, .int .i64 0, .int .i64 0, .bool false]) rfl m0 ag38 sz38 rfl rfl) rfl (pF [.bool false, .int .i64 0, .int .i64 0, .bool false] H rfl rfl sz38 .here ?_)))))))))));clear H;intro w H
    refine pL (pT (pZ ?_));intro a S
    refine r_retc1 S rfl rfl (lva (cs := [.bool false, .int .i64 0, .int .i64 0, .bool false]) ag38 sz38 rfl H m0) ⟨rfl, ((HH.pull1 H).sub (.cons_cons _ ((.cons _ (.refl _)))))⟩
   have c14 := ne_of_beq_false bc14
   revert a;refine pO bc14 rfl (pO bc14 rfl (pP (p_pick_f rfl bc14 rfl) rfl (pL (pT (zf (pX (pV (pV (pW (pT (pS (pS (pG (pA fa38_0 rfl rfl rfl (pD H rfl rfl m0 rfl ag4 rfl (pP (p_not rfl) rfl (pM 1 rfl (pN rfl (pP (p_move rfl) rfl (pN rfl (pP (p_nilCheck rfl) rfl (pN rfl (pA fa73_2 rfl rfl rfl (pN rfl (pD H rfl rfl m1 rfl ag3 rfl (pN rfl (pP (p_eql rfl rfl) rfl (pP (p_pick_t rfl rfl rfl) rfl (pM 1 rfl ?_)))))))))))))))))))))))))))));intro a S
   refine l_split (S.of 70 rfl) (fun bc30 => ?_) (fun bc30 => ?_)
   ·
    have c30 := eq_of_beq bc30
    revert a;refine pN bc30 (pP (p_move rfl) rfl (pN bc30 (pP (p_gtr rfl rfl) rfl (pP (p_pick_t rfl bc30 rfl) rfl (pL (pT ?_))))));intro a S
    refine c_cond S rfl (fun c32 => by have c32 := of_decide_eq_true c32; exfalso; omega) (fun c32 => ?_)
    have c32 := of_decide_eq_false c32
    revert a;refine pK (pT (pS (pG (pR H (r_loadn (m := 4) (vs := [.bool false, .int .i64 0, .int .i64 0, .bool false]) rfl m0 ag38 sz38 rfl rfl) rfl (pF [.bool false, .int .i64 0, .int .i64 0, .bool false] H rfl rfl sz38 .here ?_)))));clear H;intro w H
    refine pL (pT (pZ ?_));intro a S
    refine r_retc1 S rfl rfl (lva (cs := [.bool false, .int .i64 0, .int .i64 0, .bool false]) ag38 sz38 rfl H m0) ⟨rfl, ((HH.pull1 H).sub (.cons_cons _ ((.cons _ (.refl _)))))⟩
   have c30 := ne_of_beq_false bc30
   revert a;refine pO bc30 rfl (pO bc30 rfl (pP (p_pick_f rfl bc30 rfl) rfl (pL (pT (zf (pK (pT (pS (pG (pR H (r_loadn (m := 4) (vs := [.bool false, .int .i64 0, .int .i64 0, .bool false]) rfl m0 ag38 sz38 rfl rfl) rfl (pF [.bool false, .int .i64 0, .int .i64 0, .bool false] H rfl rfl sz38 .here ?_)))))))))));clear H;intro w H
   refine pL (pT (pZ ?_));intro a S
   refine r_retc1 S rfl rfl (lva (cs := [.bool false, .int .i64 0, .int .i64 0, .bool false]) ag38 sz38 rfl H m0) ⟨rfl, ((HH.pull1 H).sub (.cons_cons _ ((.cons _ (.refl _)))))⟩
  have c8 := ne_of_beq_false bc8
  revert a;refine pO bc8 rfl (pO bc8 rfl (pP (p_pick_f rfl bc8 rfl) rfl (pL (pT (zf (pX (pV (pV (pW (pT (pS (pB ?_))))))))))));intro a S
  refine c_loop (σ := Unit) (fun s_ a w => match s_ with | _ => SL a 81 [] [(0, .pointer (some ⟨g, 0, none⟩)), (1, .int .i64 t), (4, .pointer (some ⟨gf, 0, none⟩))] ∧ HH (wb.heap.size) wb w ((gf, Obj.cells #[.bool false, .int .i64 0, .int .i64 0, .bool false] 38 (0, 0)) :: (g, Obj.cells #[.string s, .int .i64 ((q : Nat) : Int), .int .i64 part, .int .i64 ((fr : Nat) : Int)] 73 (0, 0)) :: L0) ∧ (True)) (fun s_ => match s_ with | _ => 0) () ⟨S.only ⟨rfl, rfl, rfl, trivial⟩, H, trivial⟩ ?_
  clear S a H; rintro _ a w ⟨S, H, hinv⟩
  revert a;refine pS (pS (pG (pA fa38_0 rfl rfl rfl (pD H rfl rfl m0 rfl ag4 rfl (pP (p_not rfl) rfl (pM 1 rfl (pN rfl (pP (p_move rfl) rfl (pN rfl (pP (p_nilCheck rfl) rfl (pN rfl (pA fa73_2 rfl rfl rfl (pN rfl (pD H rfl rfl m1 rfl ag3 rfl (pN rfl (pP (p_eql rfl rfl) rfl (pP (p_pick_t rfl rfl rfl) rfl (pM 1 rfl ?_))))))))))))))))));intro a S
  refine l_split (S.of 50 rfl) (fun bc40 => ?_) (fun bc40 => ?_)
  ·
   have c40 := eq_of_beq bc40
   revert a;refine pN bc40 (pP (p_move rfl) rfl (pN bc40 (pP (p_gtr rfl rfl) rfl (pP (p_pick_t rfl bc40 rfl) rfl (pL (pT ?_))))));intro a S
   refine c_cond S rfl (fun c42 => by have c42 := of_decide_eq_true c42; exfalso; omega) (fun c42 => ?_)
   have c42 := of_decide_eq_false c42
   revert a;refine pX (pV (pV (pW (pT (pS (pS (pG (pA fa38_0 rfl rfl rfl (pD H rfl rfl m0 rfl ag4 rfl (pP (p_not rfl) rfl (pM 1 rfl (pN rfl (pP (p_move rfl) rfl (pN rfl (pP (p_nilCheck rfl) rfl (pN rfl (pA fa73_2 rfl rfl rfl (pN rfl (pD H rfl rfl m1 rfl ag3 rfl (pN rfl (pP (p_eql rfl rfl) rfl (pP (p_pick_t rfl rfl rfl) rfl (pM 1 rfl ?_)))))))))))))))))))))));intro a S
   refine l_split (S.of 70 rfl) (fun bc46 => ?_) (fun bc46 => ?_)
   ·
    have c46 := eq_of_beq bc46
    revert a;refine pN bc46 (pP (p_move rfl) rfl (pN bc46 (pP (p_gtr rfl rfl) rfl (pP (p_pick_t rfl bc46 rfl) rfl (pL (pT ?_))))));intro a S
    refine c_cond S rfl (fun c48 => by have c48 := of_decide_eq_true c48; exfalso; omega) (fun c48 => ?_)
    have c48 := of_decide_eq_false c48
    revert a;refine pK (pT (pS (pG (pR H (r_loadn (m := 4) (vs := [.bool false, .int .i64 0, .int .i64 0, .bool false]) rfl m0 ag38 sz38 rfl rfl) rfl (pF [.bool false, .int .i64 0, .int .i64 0, .bool false] H rfl rfl sz38 .here ?_)))));clear H;intro w H
    refine pL (pT (pZ ?_));intro a S
    refine r_retc1 S rfl rfl (lva (cs := [.bool false, .int .i64 0, .int .i64 0, .bool false]) ag38 sz38 rfl H m0) ⟨rfl, ((HH.pull1 H).sub (.cons_cons _ ((.cons _ (.refl _)))))⟩
   have c46 := ne_of_beq_false bc46
   revert a;refine pO bc46 rfl (pO bc46 rfl (pP (p_pick_f rfl bc46 rfl) rfl (pL (pT (zf (pK (pT (pS (pG (pR H (r_loadn (m := 4) (vs := [.bool false, .int .i64 0, .int .i64 0, .bool false]) rfl m0 ag38 sz38 rfl rfl) rfl (pF [.bool false, .int .i64 0, .int .i64 0, .bool false] H rfl rfl sz38 .here ?_)))))))))));clear H;intro w H
   refine pL (pT (pZ ?_));intro a S
   refine r_retc1 S rfl rfl (lva (cs := [.bool false, .int .i64 0, .int .i64 0, .bool false]) ag38 sz38 rfl H m0) ⟨rfl, ((HH.pull1 H).sub (.cons_cons _ ((.cons _ (.refl _)))))⟩
  have c40 := ne_of_beq_false bc40
  revert a;refine pO bc40 rfl (pO bc40 rfl (pP (p_pick_f rfl bc40 rfl) rfl (pL (pT (zf (pX (pV (pV (pW (pT (pS (pS (pG (pA fa38_0 rfl rfl rfl (pD H rfl rfl m0 rfl ag4 rfl (pP (p_not rfl) rfl (pM 1 rfl (pN rfl (pP (p_move rfl) rfl (pN rfl (pP (p_nilCheck rfl) rfl (pN rfl (pA fa73_2 rfl rfl rfl (pN rfl (pD H rfl rfl m1 rfl ag3 rfl (pN rfl (pP (p_eql rfl rfl) rfl (pP (p_pick_t rfl rfl rfl) rfl (pM 1 rfl ?_)))))))))))))))))))))))))))));intro a S
  refine l_split (S.of 70 rfl) (fun bc56 => ?_) (fun bc56 => ?_)
  ·
   have c56 := eq_of_beq bc56
   revert a;refine pN bc56 (pP (p_move rfl) rfl (pN bc56 (pP (p_gtr rfl rfl) rfl (pP (p_pick_t rfl bc56 rfl) rfl (pL (pT ?_))))));intro a S
   refine c_cond S rfl (fun c58 => by have c58 := of_decide_eq_true c58; exfalso; omega) (fun c58 => ?_)
   have c58 := of_decide_eq_false c58
   revert a;refine pK (pT (pS (pG (pR H (r_loadn (m := 4) (vs := [.bool false, .int .i64 0, .int .i64 0, .bool false]) rfl m0 ag38 sz38 rfl rfl) rfl (pF [.bool false, .int .i64 0, .int .i64 0, .bool false] H rfl rfl sz38 .here ?_)))));clear H;intro w H
   refine pL (pT (pZ ?_));intro a S
   refine r_retc1 S rfl rfl (lva (cs := [.bool false, .int .i64 0, .int .i64 0, .bool false]) ag38 sz38 rfl H m0) ⟨rfl, ((HH.pull1 H).sub (.cons_cons _ ((.cons _ (.refl _)))))⟩
  have c56 := ne_of_beq_false bc56
  revert a;refine pO bc56 rfl (pO bc56 rfl (pP (p_pick_f rfl bc56 rfl) rfl (pL (pT (zf (pK (pT (pS (pG (pR H (r_loadn (m := 4) (vs := [.bool false, .int .i64 0, .int .i64 0, .bool false]) rfl m0 ag38 sz38 rfl rfl) rfl (pF [.bool false, .int .i64 0, .int .i64 0, .bool false] H rfl rfl sz38 .here ?_)))))))))));clear H;intro w H
  refine pL (pT (pZ ?_));intro a S
  refine r_retc1 S rfl rfl (lva (cs := [.bool false, .int .i64 0, .int .i64 0, .bool false]) ag38 sz38 rfl H m0) ⟨rfl, ((HH.pull1 H).sub (.cons_cons _ ((.cons _ (.refl _)))))⟩
 have c2 := ne_of_beq_false bc2
 revert a;refine pO bc2 rfl (pO bc2 rfl (pP (p_pick_f rfl bc2 rfl) rfl (pL (pT (zf (pK (pT (pS (pB ?_)))))))));intro a S
 refine c_loop (σ := Unit) (fun s_ a w => match s_ with | _ => SL a 81 [] [(0, .pointer (some ⟨g, 0, none⟩)), (1, .int .i64 t), (4, .pointer (some ⟨gf, 0, none⟩))] ∧ HH (wb.heap.size) wb w ((gf, Obj.cells #[.bool false, .int .i64 0, .int .i64 0, .bool false] 38 (0, 0)) :: (g, Obj.cells #[.string s, .int .i64 ((q : Nat) : Int), .int .i64 part, .int .i64 ((fr : Nat) : Int)] 73 (0, 0)) :: L0) ∧ (True)) (fun s_ => match s_ with | _ => 0) () ⟨S.only ⟨rfl, rfl, rfl, trivial⟩, H, trivial⟩ ?_
 clear S a H; rintro _ a w ⟨S, H, hinv⟩
 revert a;refine pS (pS (pG (pA fa38_0 rfl rfl rfl (pD H rfl rfl m0 rfl ag4 rfl (pP (p_not rfl) rfl (pM 1 rfl (pN rfl (pP (p_move rfl) rfl (pN rfl (pP (p_nilCheck rfl) rfl (pN rfl (pA fa73_2 rfl rfl rfl (pN rfl (pD H rfl rfl m1 rfl ag3 rfl (pN rfl (pP (p_eql rfl rfl) rfl (pP (p_pick_t rfl rfl rfl) rfl (pM 1 rfl ?_))))))))))))))))));intro a S
 refine l_split (S.of 30 rfl) (fun bc66 => ?_) (fun bc66 => ?_)
 ·
  have c66 := eq_of_beq bc66
  revert a;refine pN bc66 (pP (p_move rfl) rfl (pN bc66 (pP (p_gtr rfl rfl) rfl (pP (p_pick_t rfl bc66 rfl) rfl (pL (pT ?_))))));intro a S
  refine c_cond S rfl (fun c68 => by have c68 := of_decide_eq_true c68; exfalso; omega) (fun c68 => ?_)
  have c68 := of_decide_eq_false c68
  revert a;refine pX (pV (pV (pW (pT (pS (pB ?_))))));intro a S
  refine c_loop (σ := Unit) (fun s_ a w => match s_ with | _ => SL a 81 [] [(0, .pointer (some ⟨g, 0, none⟩)), (1, .int .i64 t), (4, .pointer (some ⟨gf, 0, none⟩))] ∧ HH (wb.heap.size) wb w ((gf, Obj.cells #[.bool false, .int .i64 0, .int .i64 0, .bool false] 38 (0, 0)) :: (g, Obj.cells #[.string s, .int .i64 ((q : Nat) : Int), .int .i64 part, .int .i64 ((fr : Nat) : Int)] 73 (0, 0)) :: L0) ∧ (True)) (fun s_ => match s_ with | _ => 0) () ⟨S.only ⟨rfl, rfl, rfl, trivial⟩, H, trivial⟩ ?_
  clear S a H; rintro _ a w ⟨S, H, hinv⟩
  revert a;refine pS (pS (pG (pA fa38_0 rfl rfl rfl (pD H rfl rfl m0 rfl ag4 rfl (pP (p_not rfl) rfl (pM 1 rfl (pN rfl (pP (p_move rfl) rfl (pN rfl (pP (p_nilCheck rfl) rfl (pN rfl (pA fa73_2 rfl rfl rfl (pN rfl (pD H rfl rfl m1 rfl ag3 rfl (pN rfl (pP (p_eql rfl rfl) rfl (pP (p_pick_t rfl rfl rfl) rfl (pM 1 rfl ?_))))))))))))))))));intro a S
  refine l_split (S.of 50 rfl) (fun bc72 => ?_) (fun bc72 => ?_)
  ·
   have c72 := eq_of_beq bc72
   revert a;refine pN bc72 (pP (p_move rfl) rfl (pN bc72 (pP (p_gtr rfl rfl) rfl (pP (p_pick_t rfl bc72 rfl) rfl (pL (pT ?_))))));intro a S
   refine c_cond S rfl (fun c74 => by have c74 := of_decide_eq_true c74; exfalso; omega) (fun c74 => ?_)
   have c74 := of_decide_eq_false c74
   revert a;refine pX (pV (pV (pW (pT (pS (pS (pG (pA fa38_0 rfl rfl rfl (pD H rfl rfl m0 rfl ag4 rfl (pP (p_not rfl) rfl (pM 1 rfl (pN rfl (pP (p_move rfl) rfl (pN rfl (pP (p_nilCheck rfl) rfl (pN rfl (pA fa73_2 rfl rfl rfl (pN rfl (pD H rfl rfl m1 rfl ag3 rfl (pN rfl (pP (p_eql rfl rfl) rfl (pP (p_pick_t rfl rfl rfl) rfl (pM 1 rfl ?_)))))))))))))))))))))));intro a S
   refine l_split (S.of 70 rfl) (fun bc78 => ?_) (fun bc78 => ?_)
   ·
    have c78 := eq_of_beq bc78
    revert a;refine pN bc78 (pP (p_move rfl) rfl (pN bc78 (pP (p_gtr rfl rfl) rfl (pP (p_pick_t rfl bc78 rfl) rfl (pL (pT ?_))))));intro a S
    refine c_cond S rfl (fun c80 => by have c80 := of_decide_eq_true c80; exfalso; omega) (fun c80 => ?_)
    have c80 := of_decide_eq_false c80
    revert a;refine pK (pT (pS (pG (pR H (r_loadn (m := 4) (vs := [.bool false, .int .i64 0, .int .i64 0, .bool false]) rfl m0 ag38 sz38 rfl rfl) rfl (pF [.bool false, .int .i64 0, .int .i64 0, .bool false] H rfl rfl sz38 .here ?_)))));clear H;intro w H
    refine pL (pT (pZ ?_));intro a S
    refine r_retc1 S rfl rfl (lva (cs := [.bool false, .int .i64 0, .int .i64 0, .bool false]) ag38 sz38 rfl H m0) ⟨rfl, ((HH.pull1 H).sub (.cons_cons _ ((.cons _ (.refl _)))))⟩
   have c78 := ne_of_beq_false bc78
   revert a;refine pO bc78 rfl (pO bc78 rfl (pP (p_pick_f rfl bc78 rfl) rfl (pL (pT (zf (pK (pT (pS (pG (pR H (r_loadn (m := 4) (vs := [.bool false, .int .i64 0, .int .i64 0, .bool false]) rfl m0 ag38 sz38 rfl rfl) rfl (pF [.bool false, .int .i64 0, .int .i64 0, .bool false] H rfl rfl sz38 .here ?_)))))))))));clear H;intro w H
   refine pL (pT (pZ ?_));intro a S
   refine r_retc1 S rfl rfl (lva (cs := [.bool false, .int .i64 0, .int .i64 0, .bool false]) ag38 sz38 rfl H m0) ⟨rfl, ((HH.pull1 H).sub (.cons_cons _ ((.cons _ (.refl _)))))⟩
  have c72 := ne_of_beq_false bc72
  revert a;refine pO bc72 rfl (pO bc72 rfl (pP (p_pick_f rfl bc72 rfl) rfl (pL (pT (zf (pX (pV (pV (pW (pT (pS (pS (pG (pA fa38_0 rfl rfl rfl (pD H rfl rfl m0 rfl ag4 rfl (pP (p_not rfl) rfl (pM 1 rfl (pN rfl (pP (p_move rfl) rfl (pN rfl (pP (p_nilCheck rfl) rfl (pN rfl (pA fa73_2 rfl rfl rfl (pN rfl (pD H rfl rfl m1 rfl ag3 rfl (pN rfl (pP (p_eql rfl rfl) rfl (pP (p_pick_t rfl rfl rfl) rfl (pM 1 rfl ?_)))))))))))))))))))))))))))));intro a S
  refine l_split (S.of 70 rfl) (fun bc88 => ?_) (fun bc88 => ?_)
  ·
   have c88 := eq_of_beq bc88
   revert a;refine pN bc88 (pP (p_move rfl) rfl (pN bc88 (pP (p_gtr rfl rfl) rfl (pP (p_pick_t rfl bc88 rfl) rfl (pL (pT ?_))))));intro a S
   refine c_cond S rfl (fun c90 => by have c90 := of_decide_eq_true c90; exfalso; omega) (fun c90 => ?_)
   have c90 := of_decide_eq_false c90
   revert a;refine pK (pT (pS (pG (pR H (r_loadn (m := 4) (vs := [.bool false, .int .i64 0, .int .i64 0, .bool false]) rfl m0 ag38 sz38 rfl rfl) rfl (pF [.bool false, .int .i64 0, .int .i64 0, .bool false] H rfl rfl sz38 .here ?_)))));clear H;intro w H
   refine pL (pT (pZ ?_));intro a S
   refine r_retc1 S rfl rfl (lva (cs := [.bool false, .int .i64 0, .int .i64 0, .bool false]) ag38 sz38 rfl H m0) ⟨rfl, ((HH.pull1 H).sub (.cons_cons _ ((.cons _ (.refl _)))))⟩
  have c88 := ne_of_beq_false bc88
  revert a;refine pO bc88 rfl (pO bc88 rfl (pP (p_pick_f rfl bc88 rfl) rfl (pL (pT (zf (pK (pT (pS (pG (pR H (r_loadn (m := 4) (vs := [.bool false, .int .i64 0, .int .i64 0, .bool false]) rfl m0 ag38 sz38 rfl rfl) rfl (pF [.bool false, .int .i64 0, .int .i64 0, .bool false] H rfl rfl sz38 .here ?_)))))))))));clear H;intro w H
  refine pL (pT (pZ ?_));intro a S
  refine r_retc1 S rfl rfl (lva (cs := [.bool false, .int .i64 0, .int .i64 0, .bool false]) ag38 sz38 rfl H m0) ⟨rfl, ((HH.pull1 H).sub (.cons_cons _ ((.cons _ (.refl _)))))⟩
 have c66 := ne_of_beq_false bc66
 revert a;refine pO bc66 rfl (pO bc66 rfl (pP (p_pick_f rfl bc66 rfl) rfl (pL (pT (zf (pX (pV (pV (pW (pT (pS (pB ?_))))))))))));intro a S
 refine c_loop (σ := Unit) (fun s_ a w => match s_ with | _ => SL a 81 [] [(0, .pointer (some ⟨g, 0, none⟩)), (1, .int .i64 t), (4, .pointer (some ⟨gf, 0, none⟩))] ∧ HH (wb.heap.size) wb w ((gf, Obj.cells #[.bool false, .int .i64 0, .int .i64 0, .bool false] 38 (0, 0)) :: (g, Obj.cells #[.string s, .int .i64 ((q : Nat) : Int), .int .i64 part, .int .i64 ((fr : Nat) : Int)] 73 (0, 0)) :: L0) ∧ (True)) (fun s_ => match s_ with | _ => 0) () ⟨S.only ⟨rfl, rfl, rfl, trivial⟩, H, trivial⟩ ?_
 clear S a H; rintro _ a w ⟨S, H, hinv⟩
 revert a;refine pS (pS (pG (pA fa38_0 rfl rfl rfl (pD H rfl rfl m0 rfl ag4 rfl (pP (p_not rfl) rfl (pM 1 rfl (pN rfl (pP (p_move rfl) rfl (pN rfl (pP (p_nilCheck rfl) rfl (pN rfl (pA fa73_2 rfl rfl rfl (pN rfl (pD H rfl rfl m1 rfl ag3 rfl (pN rfl (pP (p_eql rfl rfl) rfl (pP (p_pick_t rfl rfl rfl) rfl (pM 1 rfl ?_))))))))))))))))));intro a S
 refine l_split (S.of 50 rfl) (fun bc98 => ?_) (fun bc98 => ?_)
 ·
  have c98 := eq_of_beq bc98
  revert a;refine pN bc98 (pP (p_move rfl) rfl (pN bc98 (pP (p_gtr rfl rfl) rfl (pP (p_pick_t rfl bc98 rfl) rfl (pL (pT ?_))))));intro a S
  refine c_cond S rfl (fun c100 => by have c100 := of_decide_eq_true c100; exfalso; omega) (fun c100 => ?_)
  have c100 := of_decide_eq_false c100
  revert a;refine pX (pV (pV (pW (pT (pS (pS (pG (pA fa38_0 rfl rfl rfl (pD H rfl rfl m0 rfl ag4 rfl (pP (p_not rfl) rfl (pM 1 rfl (pN rfl (pP (p_move rfl) rfl (pN rfl (pP (p_nilCheck rfl) rfl (pN rfl (pA fa73_2 rfl rfl rfl (pN rfl (pD H rfl rfl m1 rfl ag3 rfl (pN rfl (pP (p_eql rfl rfl) rfl (pP (p_pick_t rfl rfl rfl) rfl (pM 1 rfl ?_)))))))))))))))))))))));intro a S
  refine l_split (S.of 70 rfl) (fun bc104 => ?_) (fun bc104 => ?_)
  ·
   have c104 := eq_of_beq bc104
   revert a;refine pN bc104 (pP (p_move rfl) rfl (pN bc104 (pP (p_gtr rfl rfl) rfl (pP (p_pick_t rfl bc104 rfl) rfl (pL (pT ?_))))));intro a S
   refine c_cond S rfl (fun c106 => by have c106 := of_decide_eq_true c106; exfalso; omega) (fun c106 => ?_)
   have c106 := of_decide_eq_false c106
   revert a;refine pK (pT (pS (pG (pR H (r_loadn (m := 4) (vs := [.bool false, .int .i64 0, .int .i64 0, .bool false]) rfl m0 ag38 sz38 rfl rfl) rfl (pF [.bool false, .int .i64 0, .int .i64 0, .bool false] H rfl rfl sz38 .here ?_)))));clear H;intro w H
   refine pL (pT (pZ ?_));intro a S
   refine r_retc1 S rfl rfl (lva (cs := [.bool false, .int .i64 0, .int .i64 0, .bool false]) ag38 sz38 rfl H m0) ⟨rfl, ((HH.pull1 H).sub (.cons_cons _ ((.cons _ (.refl _)))))⟩
  have c104 := ne_of_beq_false bc104
  revert a;refine pO bc104 rfl (pO bc104 rfl (pP (p_pick_f rfl bc104 rfl) rfl (pL (pT (zf (pK (pT (pS (pG (pR H (r_loadn (m := 4) (vs := [.bool false, .int .i64 0, .int .i64 0, .bool false]) rfl m0 ag38 sz38 rfl rfl) rfl (pF [.bool false, .int .i64 0, .int .i64 0, .bool false] H rfl rfl sz38 .here ?_)))))))))));clear H;intro w H
  refine pL (pT (pZ ?_));intro a S
  refine r_retc1 S rfl rfl (lva (cs := [.bool false, .int .i64 0, .int .i64 0, .bool false]) ag38 sz38 rfl H m0) ⟨rfl, ((HH.pull1 H).sub (.cons_cons _ ((.cons _ (.refl _)))))⟩
 have c98 := ne_of_beq_false bc98
 revert a;refine pO bc98 rfl (pO bc98 rfl (pP (p_pick_f rfl bc98 rfl) rfl (pL (pT (zf (pX (pV (pV (pW (pT (pS (pS (pG (pA fa38_0 rfl rfl rfl (pD H rfl rfl m0 rfl ag4 rfl (pP (p_not rfl) rfl (pM 1 rfl (pN rfl (pP (p_move rfl) rfl (pN rfl (pP (p_nilCheck rfl) rfl (pN rfl (pA fa73_2 rfl rfl rfl (pN rfl (pD H rfl rfl m1 rfl ag3 rfl (pN rfl (pP (p_eql rfl rfl) rfl (pP (p_pick_t rfl rfl rfl) rfl (pM 1 rfl ?_)))))))))))))))))))))))))))));intro a S
 refine l_split (S.of 70 rfl) (fun bc114 => ?_) (fun bc114 => ?_)
 ·
  have c114 := eq_of_beq bc114
  revert a;refine pN bc114 (pP (p_move rfl) rfl (pN bc114 (pP (p_gtr rfl rfl) rfl (pP (p_pick_t rfl bc114 rfl) rfl (pL (pT ?_))))));intro a S
  refine c_cond S rfl (fun c116 => by have c116 := of_decide_eq_true c116; exfalso; omega) (fun c116 => ?_)
  have c116 := of_decide_eq_false c116
  revert a;refine pK (pT (pS (pG (pR H (r_loadn (m := 4) (vs := [.bool false, .int .i64 0, .int .i64 0, .bool false]) rfl m0 ag38 sz38 rfl rfl) rfl (pF [.bool false, .int .i64 0, .int .i64 0, .bool false] H rfl rfl sz38 .here ?_)))));clear H;intro w H
  refine pL (pT (pZ ?_));intro a S
  refine r_retc1 S rfl rfl (lva (cs := [.bool false, .int .i64 0, .int .i64 0, .bool false]) ag38 sz38 rfl H m0) ⟨rfl, ((HH.pull1 H).sub (.cons_cons _ ((.cons _ (.refl _)))))⟩
 have c114 := ne_of_beq_false bc114
 revert a;refine pO bc114 rfl (pO bc114 rfl (pP (p_pick_f rfl bc114 rfl) rfl (pL (pT (zf (pK (pT (pS (pG (pR H (r_loadn (m := 4) (vs := [.bool false, .int .i64 0, .int .i64 0, .bool false]) rfl m0 ag38 sz38 rfl rfl) rfl (pF [.bool false, .int .i64 0, .int .i64 0, .bool false] H rfl rfl sz38 .here ?_)))))))))));clear H;intro w H
 refine pL (pT (pZ ?_));intro a S
 refine r_retc1 S rfl rfl (lva (cs := [.bool false, .int .i64 0, .int .i64 0, .bool false]) ag38 sz38 rfl H m0) ⟨rfl, ((HH.pull1 H).sub (.cons_cons _ ((.cons _ (.refl _)))))⟩
end jc
end Go.Proofs.YtbahngfpadjbhaaGreatDoor.dec
end
