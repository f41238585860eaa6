/- the wire of a message -/
import Derived.Test.YtfbfmcjjohiikaaGreatDoorQ03
import Derived.Test.YtfbfmcjjohiikaaGreatDoorQ01
set_option linter.unusedVariables false
set_option linter.unusedSimpArgs false
section
namespace Go.Proofs.YtfbfmcjjohiikaaGreatDoor.mw
open Go.Proofs.YtfbfmcjjohiikaaGreatDoor.fx
open Go.RowKit Go.Proofs.HHW Go.Proofs.YtfbfmcjjohiikaaGreatDoorW.PrintWords
namespace ms
set_option maxHeartbeats 1000000 in
theorem bstt_ (wb w0 : World) (B : Nat) (L0 : dc.Bk) (go bp b : Nat) (l : List Int) (ls : List (Nat × Obj)) (hE : Env go bp b l ls) (ht : Lib.TabBelow Tryz.prog B wb "internal/strconv.uint64pow10" .u64 Lib.pow10Tab) (hT : fz.PTab 3 B wb) (H : HH B wb w0 (ls ++ L0)) (hl : l.length ≤ 10000000) (tx : ByteArray) (htx : tx.size ≤ 10000000) : Calls Tryz.prog 108 #[.agg #[.string tx, .bool true], .iface 46 (.pointer (some ⟨b, 0, none⟩)), .pointer (some ⟨go, 0, none⟩)] w0 fun e w' => e = .returned .nilIface ∧ ∃ ls', Env go bp b (l ++ ([36, 63, 13, 10])) ls' ∧ HH B wb w' (ls' ++ L0) := by
 obtain ⟨br, po, bs, hp, hz, rfl⟩ := hE
 replace H : HH B wb w0 (opt go bp br :: (po ++ (bs ++ L0))) := HH.app H (by simp)
 refine c_enter_d (args := [.agg #[.string tx, .bool true], .iface 46 (.pointer (some ⟨b, 0, none⟩)), .pointer (some ⟨go, 0, none⟩)]) (k := 75) Tryz.func108 rfl rfl rfl (fun a S => ?_)
 refine wp_seq ?_
 refine c_region ?_
 refine l_box (cs := #[.string tx, .bool true]) S H rfl rfl (fun w => bx) rfl rfl rfl ?_; clear S a H; intro g1 w a H S
 refine l_mv 1 S rfl ?_; clear S a; intro a S
 refine l_nil ?_
 refine e_then ?_
 refine wp_seq ?_
 refine c_region ?_
 refine l_mv 2 S rfl ?_; clear S a; intro a S
 refine l_pure S (p_fieldAddr rfl (fun w => fa102_0 w _ _)) rfl rfl rfl ?_; clear S a; intro a S
 refine l_read S H (r_load rfl (List.mem_cons_of_mem _ List.mem_cons_self) rfl (fun w hc => ld1 ag84 hc)) rfl rfl rfl ?_; clear S a; intro a S
 replace H : HH B wb _ ((g1, .cells #[.string tx, .bool true] 58 (0, 0)) :: (opt go bp br :: (po ++ (bs ++ L0)))) := H
 replace H : HH B wb _ (po ++ ((g1, .cells #[.string tx, .bool true] 58 (0, 0)) :: (opt go bp br :: (bs ++ L0)))) := HH.app (HH.front (L1 := ((g1, .cells #[.string tx, .bool true] 58 (0, 0)) :: [opt go bp br])) (S := po) (L2 := (bs ++ L0)) (HH.app H (by simp))) (by simp)
 have hcon := wr.pl.get_ wb _ B ((g1, .cells #[.string tx, .bool true] 58 (0, 0)) :: (opt go bp br :: (bs ++ L0))) bp po hp H
 refine l_callv (us := [.pointer (some ⟨bp, 0, none⟩)]) (cs := []) S rfl rfl rfl Tryz.func23 rfl rfl hcon rfl rfl rfl ?_
 rintro e w ⟨po', hp', gb, A0, c0, ow0, rfl, hown0, hH⟩
 refine ⟨_, rfl, ?_⟩; clear S a; intro a S; clear H hcon; have H := hH; clear hH
 refine l_mv 1 S rfl ?_; clear S a; intro a S
 refine l_nil ?_
 refine e_then ?_
 refine wp_seq ?_
 refine c_region ?_
 refine l_mv 2 S rfl ?_; clear S a; intro a S
 refine l_pure S (p_fieldAddr rfl (fun w => fa102_1 w _ _)) rfl rfl rfl ?_; clear S a; intro a S
 refine l_read S H (r_load rfl (List.mem_cons_of_mem _ (List.mem_append_right _ (List.mem_append_right _ (List.mem_cons_of_mem _ List.mem_cons_self)))) rfl (fun w hc => ld1 ag85 hc)) rfl rfl rfl ?_; clear S a; intro a S
 refine l_mv 1 S rfl ?_; clear S a; intro a S
 refine l_defer (xs := [.tmp 19]) (us := [.pointer (some ⟨bp, 0, none⟩)]) (cs := []) (vs := [.pointer (some ⟨gb, 0, none⟩)]) S rfl rfl rfl rfl rfl ?_; clear S a; intro a S
 refine l_nil ?_
 refine e_then ?_
 refine wp_seq ?_
 refine c_region ?_
 refine l_mv 3 S rfl ?_; clear S a; intro a S
 refine l_read S H (r_load rfl List.mem_cons_self rfl (fun w hc => ld1 ag34 hc)) rfl rfl rfl ?_; clear S a; intro a S
 refine l_lit [(.const (.int .u8 36))] S H rfl rfl Tryz.underlying34 sz5 zv5 rfl rfl (by simp [Value.cells]) rfl rfl rfl ?_; clear S a H; intro g2 w a H S
 refine l_ownB [_, _] (l := ([] : List Int)) (r := [36]) S H rfl rfl rfl hown0 (src_lit (vs := ([36]).map (Value.int .u8)) H List.mem_cons_self Tryz.underlying34 (by simp [Value.oneCell'])) Tryz.underlying34 in5 rfl (by simp only [List.length_append, List.length_cons, List.length_nil, wq.dec_len, ints_len]; have := wq.nDigits_le (u := tx.size) (k := 18) (by omega); omega) (by decide) rfl rfl rfl ?_; clear S a H; intro An3 cn3 own3 w a hn3 H S
 replace H := H.tail
 replace H : HH B wb _ ((gb, .cells #[.slice A0 ([] : List Int).length c0] 34 (0, 0)) :: (own3 ++ (po' ++ ((g1, .cells #[.string tx, .bool true] 58 (0, 0)) :: (opt go bp br :: (bs ++ L0)))))) := H
 refine l_mv 1 S rfl ?_; clear S a; intro a S
 refine l_store S H rfl rfl rfl .here (by first | decide | simp [Value.cells]) (fun w u hc hz => st1 sz34 rfl hc hz) rfl rfl ?_; clear S a H; intro w a H S
 refine l_nil ?_
 refine e_then ?_
 refine wp_seq ?_
 refine wp_seq ?_
 refine c_region ?_
 refine l_pure S (p_fieldAddr rfl (fun w => fa58_1 w _ _)) rfl rfl rfl ?_; clear S a; intro a S
 refine l_read S H (r_load rfl (List.mem_cons_of_mem _ (List.mem_append_right _ (List.mem_append_right _ List.mem_cons_self))) rfl (fun w hc => ld1 ag4 hc)) rfl rfl rfl ?_; clear S a; intro a S
 refine l_nil ?_
 refine e_then ?_
 refine c_cond (b := true) S rfl (fun _ => ?_) (fun h => by cases h)
 refine d_start (id := 5) [5, 7] 8 #[false, false, false, false, false, false, false, false] H rfl rfl rfl (fun w H => ?_)
 refine d_pure (i := 0) #[true, false, false, false, false, false, false, false] S rfl (p_move rfl) (wanted_none rfl) rfl rfl (by kernel_rfl) hq108 ?_; clear S a; intro a S
 refine d_pure (i := 1) #[true, true, false, false, false, false, false, false] S rfl (p_move rfl) (wanted_none rfl) rfl rfl (by kernel_rfl) hq108 ?_; clear S a; intro a S
 refine d_pure (i := 2) #[true, true, true, false, false, false, false, false] S rfl (p_nilCheck rfl) (wanted_none rfl) rfl rfl (by kernel_rfl) hq108 ?_; clear S a; intro a S
 refine d_read (i := 3) #[true, true, true, true, false, false, false, false] S H rfl (r_load rfl List.mem_cons_self rfl (fun w hc => ld1 ag34 hc)) (wanted_none rfl) rfl rfl (by kernel_rfl) hq108 ?_; clear S a; intro a S
 have hcon := streamHeaderSize_ wb _ B _ H
 refine d_call (i := 4) #[true, true, true, true, true, false, false, false] S rfl rfl rfl Tryz.func105 rfl rfl hcon (wanted_none rfl) rfl rfl (by kernel_rfl) rfl ?_
 rintro e w ⟨gd6, rfl, hH⟩; refine ⟨_, rfl, hH.tail, ?_⟩; clear hcon H; have H := hH; clear hH; clear S a; intro a S
 refine d_ownB (i := 5) [_, _] (xs := (([] : List Int) ++ [36])) (r := [63]) #[true, true, true, true, true, true, false, false] S H rfl rfl rfl rfl hn3 (src_lit (vs := ([63]).map (Value.int .u8)) H List.mem_cons_self Tryz.underlying34 (by simp [Value.oneCell'])) Tryz.underlying34 in5 rfl (by simp only [List.length_append, List.length_cons, List.length_nil, wq.dec_len, ints_len]; have := wq.nDigits_le (u := tx.size) (k := 18) (by omega); omega) (by decide) (wanted_none rfl) rfl rfl (by kernel_rfl) rfl ?_; clear S a H; intro An7 cn7 own7 w a hn7 H S
 replace H := H.tail
 replace H : HH B wb _ ((gb, .cells #[.slice An3 (([] : List Int) ++ [36]).length cn3] 34 (0, 0)) :: (own7 ++ (po' ++ ((g1, .cells #[.string tx, .bool true] 58 (0, 0)) :: (opt go bp br :: (bs ++ L0)))))) := H
 refine d_pure (i := 6) #[true, true, true, true, true, true, true, false] S rfl (p_nilCheck rfl) (wanted_none rfl) rfl rfl (by kernel_rfl) hq108 ?_; clear S a; intro a S
 refine d_store (i := 7) #[true, true, true, true, true, true, true, true] S H rfl rfl rfl rfl .here (by first | decide | simp [Value.cells]) (fun w u hc hz => st1 sz34 rfl hc hz) (wanted_none rfl) rfl (by kernel_rfl) rfl ?_; clear S a H; intro w a H S
 refine d_done (by kernel_rfl) ?_
 refine e_then ?_
 refine wp_seq ?_
 refine d_start (id := 9) [5, 7] 8 #[false, false, false, false, false, false, false, false] H rfl rfl rfl (fun w H => ?_)
 refine d_pure (i := 0) #[true, false, false, false, false, false, false, false] S rfl (p_move rfl) (wanted_none rfl) rfl rfl (by kernel_rfl) hq108 ?_; clear S a; intro a S
 refine d_pure (i := 1) #[true, true, false, false, false, false, false, false] S rfl (p_move rfl) (wanted_none rfl) rfl rfl (by kernel_rfl) hq108 ?_; clear S a; intro a S
 refine d_pure (i := 2) #[true, true, true, false, false, false, false, false] S rfl (p_nilCheck rfl) (wanted_none rfl) rfl rfl (by kernel_rfl) hq108 ?_; clear S a; intro a S
 refine d_read (i := 3) #[true, true, true, true, false, false, false, false] S H rfl (r_load rfl List.mem_cons_self rfl (fun w hc => ld1 ag34 hc)) (wanted_none rfl) rfl rfl (by kernel_rfl) hq108 ?_; clear S a; intro a S
 have hcon := delim_ wb _ B _ H
 refine d_call (i := 4) #[true, true, true, true, true, false, false, false] S rfl rfl rfl Tryz.func107 rfl rfl hcon (wanted_none rfl) rfl rfl (by kernel_rfl) rfl ?_
 rintro e w ⟨gd8, rfl, hH⟩; refine ⟨_, rfl, hH.tail, ?_⟩; clear hcon H; have H := hH; clear hH; clear S a; intro a S
 refine d_ownB (i := 5) [_, _] (xs := ((([] : List Int) ++ [36]) ++ [63])) (r := [13, 10]) #[true, true, true, true, true, true, false, false] S H rfl rfl rfl rfl hn7 (src_lit (vs := ([13, 10]).map (Value.int .u8)) H List.mem_cons_self Tryz.underlying34 (by simp [Value.oneCell'])) Tryz.underlying34 in5 rfl (by simp only [List.length_append, List.length_cons, List.length_nil, wq.dec_len, ints_len]; have := wq.nDigits_le (u := tx.size) (k := 18) (by omega); omega) (by decide) (wanted_none rfl) rfl rfl (by kernel_rfl) rfl ?_; clear S a H; intro An9 cn9 own9 w a hn9 H S
 replace H := H.tail
 replace H : HH B wb _ ((gb, .cells #[.slice An7 ((([] : List Int) ++ [36]) ++ [63]).length cn7] 34 (0, 0)) :: (own9 ++ (po' ++ ((g1, .cells #[.string tx, .bool true] 58 (0, 0)) :: (opt go bp br :: (bs ++ L0)))))) := H
 refine d_pure (i := 6) #[true, true, true, true, true, true, true, false] S rfl (p_nilCheck rfl) (wanted_none rfl) rfl rfl (by kernel_rfl) hq108 ?_; clear S a; intro a S
 refine d_store (i := 7) #[true, true, true, true, true, true, true, true] S H rfl rfl rfl rfl .here (by first | decide | simp [Value.cells]) (fun w u hc hz => st1 sz34 rfl hc hz) (wanted_none rfl) rfl (by kernel_rfl) rfl ?_; clear S a H; intro w a H S
 refine d_done (by kernel_rfl) ?_
 refine e_then ?_
 refine wp_seq ?_
 refine d_start (id := 10) [6] 12 #[false, false, false, false, false, false, false, false, false, false, false, false] H rfl rfl rfl (fun w H => ?_)
 refine d_pure (i := 0) #[true, false, false, false, false, false, false, false, false, false, false, false] S rfl (p_move rfl) (wanted_none rfl) rfl rfl (by kernel_rfl) hq108 ?_; clear S a; intro a S
 refine d_pure (i := 1) #[true, true, false, false, false, false, false, false, false, false, false, false] S rfl (p_move rfl) (wanted_none rfl) rfl rfl (by kernel_rfl) hq108 ?_; clear S a; intro a S
 refine d_pure (i := 2) #[true, true, true, false, false, false, false, false, false, false, false, false] S rfl (p_nilCheck rfl) (wanted_none rfl) rfl rfl (by kernel_rfl) hq108 ?_; clear S a; intro a S
 refine d_read (i := 3) #[true, true, true, true, false, false, false, false, false, false, false, false] S H rfl (r_load rfl List.mem_cons_self rfl (fun w hc => ld1 ag34 hc)) (wanted_none rfl) rfl rfl (by kernel_rfl) hq108 ?_; clear S a; intro a S
 refine d_pure (i := 4) #[true, true, true, true, true, false, false, false, false, false, false, false] S rfl (p_nilCheckI rfl) (wanted_none rfl) rfl rfl (by kernel_rfl) hq108 ?_; clear S a; intro a S
 refine d_pure (i := 5) #[true, true, true, true, true, true, false, false, false, false, false, false] S rfl (p_move rfl) (wanted_none rfl) rfl rfl (by kernel_rfl) hq108 ?_; clear S a; intro a S
 obtain ⟨gr, cr, fr, rfl, rfl, hlc, hcr, hth, hrow⟩ := rp.own_open hn9 (by simp only [List.length_append, List.length_cons, List.length_nil]; omega)
 replace H : HH B wb _ ((gb, .cells #[.slice (some ⟨gr, 0, none⟩) (((([] : List Int) ++ [36]) ++ [63]) ++ [13, 10]).length cn9] 34 (0, 0)) :: ((gr, .cells cr 5 fr) :: (po' ++ ((g1, .cells #[.string tx, .bool true] 58 (0, 0)) :: (opt go bp br :: (bs ++ L0)))))) := H
 have H2 := HH.front (L1 := ((gb, .cells #[.slice (some ⟨gr, 0, none⟩) (((([] : List Int) ++ [36]) ++ [63]) ++ [13, 10]).length cn9] 34 (0, 0)) :: ((gr, .cells cr 5 fr) :: (po' ++ ((g1, .cells #[.string tx, .bool true] 58 (0, 0)) :: [opt go bp br]))))) (S := bs) (L2 := L0) (HH.app H (by simp))
 have hcon := wr.bb.write_ wb _ B (((gb, .cells #[.slice (some ⟨gr, 0, none⟩) (((([] : List Int) ++ [36]) ++ [63]) ++ [13, 10]).length cn9] 34 (0, 0)) :: ((gr, .cells cr 5 fr) :: (po' ++ ((g1, .cells #[.string tx, .bool true] 58 (0, 0)) :: [opt go bp br])))) ++ L0) b l bs hz gr 0 cn9 cr fr (((([] : List Int) ++ [36]) ++ [63]) ++ [13, 10]) (by simp) hrow (by simp only [List.length_append, List.length_cons, List.length_nil]; omega) H2 (by simp only [List.length_append, List.length_cons, List.length_nil, wq.dec_len, ints_len]; have := wq.nDigits_le (u := tx.size) (k := 18) (by omega); omega)
 refine d_invoke_last (i := 6) #[true, true, true, true, true, true, true, false, false, false, false, false] S rfl rfl rfl rfl (meW _ _) Tryz.func157 rfl rfl hcon (wanted_none rfl) rfl rfl (by kernel_rfl) rfl ?_
 rintro e w ⟨rfl, bs2, hz2, hH⟩
 refine ⟨_, rfl, ?_⟩; clear S a; intro a S; clear H H2 hcon
 have H : HH B wb w ((gb, .cells #[.slice (some ⟨gr, 0, none⟩) (((([] : List Int) ++ [36]) ++ [63]) ++ [13, 10]).length cn9] 34 (0, 0)) :: ((gr, .cells cr 5 fr) :: (po' ++ ((g1, .cells #[.string tx, .bool true] 58 (0, 0)) :: (opt go bp br :: (bs2 ++ L0)))))) := HH.app (HH.front (L1 := bs2) (S := ((gb, .cells #[.slice (some ⟨gr, 0, none⟩) (((([] : List Int) ++ [36]) ++ [63]) ++ [13, 10]).length cn9] 34 (0, 0)) :: ((gr, .cells cr 5 fr) :: (po' ++ ((g1, .cells #[.string tx, .bool true] 58 (0, 0)) :: [opt go bp br]))))) (L2 := L0) hH) (by simp)
 clear hH
 refine d_pure (i := 7) #[true, true, true, true, true, true, true, true, false, false, false, false] S rfl (p_move rfl) (wanted_none rfl) rfl rfl (by kernel_rfl) hq108 ?_; clear S a; intro a S
 refine d_pure (i := 8) #[true, true, true, true, true, true, true, true, true, false, false, false] S rfl (p_extract rfl rfl) (wanted_none rfl) rfl rfl (by kernel_rfl) hq108 ?_; clear S a; intro a S
 refine d_pure (i := 9) #[true, true, true, true, true, true, true, true, true, true, false, false] S rfl (p_extract rfl rfl) (wanted_none rfl) rfl rfl (by kernel_rfl) hq108 ?_; clear S a; intro a S
 refine d_pure (i := 10) #[true, true, true, true, true, true, true, true, true, true, true, false] S rfl (p_assign rfl) (wanted_none rfl) rfl rfl (by kernel_rfl) hq108 ?_; clear S a; intro a S
 refine d_pure (i := 11) #[true, true, true, true, true, true, true, true, true, true, true, true] S rfl (p_assign rfl) (wanted_none rfl) rfl rfl (by kernel_rfl) hq108 ?_; clear S a; intro a S
 refine d_done (by kernel_rfl) ?_
 refine e_then ?_
 refine wp_seq ?_
 refine c_region ?_
 refine l_mv 2 S rfl ?_; clear S a; intro a S
 refine l_nil ?_
 refine e_then ?_
 refine wp_ret ?_
 refine r_doorA S (wr.pl.put_ wb _ B ((g1, .cells #[.string tx, .bool true] 58 (0, 0)) :: (opt go bp br :: (bs2 ++ L0))) bp gb cn9 (some ⟨gr, 0, none⟩) (((([] : List Int) ++ [36]) ++ [63]) ++ [13, 10]) po' [(gr, .cells cr 5 fr)] hp' hn9 H) (invokesA (vs := [.pointer (some ⟨bp, 0, none⟩), .pointer (some ⟨gb, 0, none⟩)]) (caps := []) Tryz.func24 rfl rfl) (fun w' _ => res_t1 rfl rfl) ?_
 rintro w' ⟨po2, hp2, hH⟩
 have H3 := HH.front (L1 := po2) (S := ((g1, .cells #[.string tx, .bool true] 58 (0, 0)) :: [opt go bp br])) (L2 := bs2 ++ L0) (HH.app hH (by simp))
 exact ⟨rfl, _, ⟨br, po2, bs2, hp2, by simpa [mw.bl] using hz2, rfl⟩, HH.app (L := (opt go bp br :: (po2 ++ (bs2 ++ L0)))) (L' := (opt go bp br :: (po2 ++ bs2)) ++ L0) (HH.app (L' := ((g1, .cells #[.string tx, .bool true] 58 (0, 0)) :: (opt go bp br :: (po2 ++ (bs2 ++ L0))))) H3 (by simp)).tail (by simp)⟩
set_option maxHeartbeats 1000000 in
theorem bstf_ (wb w0 : World) (B : Nat) (L0 : dc.Bk) (go bp b : Nat) (l : List Int) (ls : List (Nat × Obj)) (hE : Env go bp b l ls) (ht : Lib.TabBelow Tryz.prog B wb "internal/strconv.uint64pow10" .u64 Lib.pow10Tab) (hT : fz.PTab 3 B wb) (H : HH B wb w0 (ls ++ L0)) (hl : l.length ≤ 10000000) (tx : ByteArray) (htx : tx.size ≤ 10000000) : Calls Tryz.prog 108 #[.agg #[.string tx, .bool false], .iface 46 (.pointer (some ⟨b, 0, none⟩)), .pointer (some ⟨go, 0, none⟩)] w0 fun e w' => e = .returned .nilIface ∧ ∃ ls', Env go bp b (l ++ (mw.bl 36 tx.size (ints tx))) ls' ∧ HH B wb w' (ls' ++ L0) := by
 obtain ⟨br, po, bs, hp, hz, rfl⟩ := hE
 replace H : HH B wb w0 (opt go bp br :: (po ++ (bs ++ L0))) := HH.app H (by simp)
 refine c_enter_d (args := [.agg #[.string tx, .bool false], .iface 46 (.pointer (some ⟨b, 0, none⟩)), .pointer (some ⟨go, 0, none⟩)]) (k := 75) Tryz.func108 rfl rfl rfl (fun a S => ?_)
 refine wp_seq ?_
 refine c_region ?_
 refine l_box (cs := #[.string tx, .bool false]) S H rfl rfl (fun w => bx) rfl rfl rfl ?_; clear S a H; intro g1 w a H S
 refine l_mv 1 S rfl ?_; clear S a; intro a S
 refine l_nil ?_
 refine e_then ?_
 refine wp_seq ?_
 refine c_region ?_
 refine l_mv 2 S rfl ?_; clear S a; intro a S
 refine l_pure S (p_fieldAddr rfl (fun w => fa102_0 w _ _)) rfl rfl rfl ?_; clear S a; intro a S
 refine l_read S H (r_load rfl (List.mem_cons_of_mem _ List.mem_cons_self) rfl (fun w hc => ld1 ag84 hc)) rfl rfl rfl ?_; clear S a; intro a S
 replace H : HH B wb _ ((g1, .cells #[.string tx, .bool false] 58 (0, 0)) :: (opt go bp br :: (po ++ (bs ++ L0)))) := H
 replace H : HH B wb _ (po ++ ((g1, .cells #[.string tx, .bool false] 58 (0, 0)) :: (opt go bp br :: (bs ++ L0)))) := HH.app (HH.front (L1 := ((g1, .cells #[.string tx, .bool false] 58 (0, 0)) :: [opt go bp br])) (S := po) (L2 := (bs ++ L0)) (HH.app H (by simp))) (by simp)
 have hcon := wr.pl.get_ wb _ B ((g1, .cells #[.string tx, .bool false] 58 (0, 0)) :: (opt go bp br :: (bs ++ L0))) bp po hp H
 refine l_callv (us := [.pointer (some ⟨bp, 0, none⟩)]) (cs := []) S rfl rfl rfl Tryz.func23 rfl rfl hcon rfl rfl rfl ?_
 rintro e w ⟨po', hp', gb, A0, c0, ow0, rfl, hown0, hH⟩
 refine ⟨_, rfl, ?_⟩; clear S a; intro a S; clear H hcon; have H := hH; clear hH
 refine l_mv 1 S rfl ?_; clear S a; intro a S
 refine l_nil ?_
 refine e_then ?_
 refine wp_seq ?_
 refine c_region ?_
 refine l_mv 2 S rfl ?_; clear S a; intro a S
 refine l_pure S (p_fieldAddr rfl (fun w => fa102_1 w _ _)) rfl rfl rfl ?_; clear S a; intro a S
 refine l_read S H (r_load rfl (List.mem_cons_of_mem _ (List.mem_append_right _ (List.mem_append_right _ (List.mem_cons_of_mem _ List.mem_cons_self)))) rfl (fun w hc => ld1 ag85 hc)) rfl rfl rfl ?_; clear S a; intro a S
 refine l_mv 1 S rfl ?_; clear S a; intro a S
 refine l_defer (xs := [.tmp 19]) (us := [.pointer (some ⟨bp, 0, none⟩)]) (cs := []) (vs := [.pointer (some ⟨gb, 0, none⟩)]) S rfl rfl rfl rfl rfl ?_; clear S a; intro a S
 refine l_nil ?_
 refine e_then ?_
 refine wp_seq ?_
 refine c_region ?_
 refine l_mv 3 S rfl ?_; clear S a; intro a S
 refine l_read S H (r_load rfl List.mem_cons_self rfl (fun w hc => ld1 ag34 hc)) rfl rfl rfl ?_; clear S a; intro a S
 refine l_lit [(.const (.int .u8 36))] S H rfl rfl Tryz.underlying34 sz5 zv5 rfl rfl (by simp [Value.cells]) rfl rfl rfl ?_; clear S a H; intro g2 w a H S
 refine l_ownB [_, _] (l := ([] : List Int)) (r := [36]) S H rfl rfl rfl hown0 (src_lit (vs := ([36]).map (Value.int .u8)) H List.mem_cons_self Tryz.underlying34 (by simp [Value.oneCell'])) Tryz.underlying34 in5 rfl (by simp only [List.length_append, List.length_cons, List.length_nil, wq.dec_len, ints_len]; have := wq.nDigits_le (u := tx.size) (k := 18) (by omega); omega) (by decide) rfl rfl rfl ?_; clear S a H; intro An3 cn3 own3 w a hn3 H S
 replace H := H.tail
 replace H : HH B wb _ ((gb, .cells #[.slice A0 ([] : List Int).length c0] 34 (0, 0)) :: (own3 ++ (po' ++ ((g1, .cells #[.string tx, .bool false] 58 (0, 0)) :: (opt go bp br :: (bs ++ L0)))))) := H
 refine l_mv 1 S rfl ?_; clear S a; intro a S
 refine l_store S H rfl rfl rfl .here (by first | decide | simp [Value.cells]) (fun w u hc hz => st1 sz34 rfl hc hz) rfl rfl ?_; clear S a H; intro w a H S
 refine l_nil ?_
 refine e_then ?_
 refine wp_seq ?_
 refine wp_seq ?_
 refine c_region ?_
 refine l_pure S (p_fieldAddr rfl (fun w => fa58_1 w _ _)) rfl rfl rfl ?_; clear S a; intro a S
 refine l_read S H (r_load rfl (List.mem_cons_of_mem _ (List.mem_append_right _ (List.mem_append_right _ List.mem_cons_self))) rfl (fun w hc => ld1 ag4 hc)) rfl rfl rfl ?_; clear S a; intro a S
 refine l_nil ?_
 refine e_then ?_
 refine c_cond (b := false) S rfl (fun h => by cases h) (fun _ => ?_)
 refine wp_seq ?_
 refine d_start (id := 6) [7, 9] 10 #[false, false, false, false, false, false, false, false, false, false] H rfl rfl rfl (fun w H => ?_)
 refine d_pure (i := 0) #[true, false, false, false, false, false, false, false, false, false] S rfl (p_move rfl) (wanted_none rfl) rfl rfl (by kernel_rfl) hq108 ?_; clear S a; intro a S
 refine d_pure (i := 1) #[true, true, false, false, false, false, false, false, false, false] S rfl (p_move rfl) (wanted_none rfl) rfl rfl (by kernel_rfl) hq108 ?_; clear S a; intro a S
 refine d_pure (i := 2) #[true, true, true, false, false, false, false, false, false, false] S rfl (p_nilCheck rfl) (wanted_none rfl) rfl rfl (by kernel_rfl) hq108 ?_; clear S a; intro a S
 refine d_read (i := 3) #[true, true, true, true, false, false, false, false, false, false] S H rfl (r_load rfl List.mem_cons_self rfl (fun w hc => ld1 ag34 hc)) (wanted_none rfl) rfl rfl (by kernel_rfl) hq108 ?_; clear S a; intro a S
 refine d_pure (i := 4) #[true, true, true, true, true, false, false, false, false, false] S rfl (p_fieldAddr rfl (fun w => fa58_0 w _ _)) (wanted_none rfl) rfl rfl (by kernel_rfl) hq108 ?_; clear S a; intro a S
 refine d_read (i := 5) #[true, true, true, true, true, true, false, false, false, false] S H rfl (r_load rfl (List.mem_cons_of_mem _ (List.mem_append_right _ (List.mem_append_right _ List.mem_cons_self))) rfl (fun w hc => ld1 ag9 hc)) (wanted_none rfl) rfl rfl (by kernel_rfl) hq108 ?_; clear S a; intro a S
 refine d_pure (i := 6) #[true, true, true, true, true, true, true, false, false, false] S rfl (p_lens Tryz.underlying9 rfl) (wanted_none rfl) rfl rfl (by kernel_rfl) hq108 ?_; clear S a; intro a S
 have hcon := nm.appI_ wb _ B ((gb, .cells #[.slice An3 (([] : List Int) ++ [36]).length cn3] 34 (0, 0)) :: (po' ++ ((g1, .cells #[.string tx, .bool false] 58 (0, 0)) :: (opt go bp br :: (bs ++ L0))))) ht hT An3 cn3 ((tx.size : Nat) : Int) (([] : List Int) ++ [36]) own3 hn3 H.mid (by have := wq.nDigits_le (u := tx.size) (k := 18) (by omega); omega) (by simp only [List.length_append, List.length_cons, List.length_nil, wq.dec_len, ints_len]; have := wq.nDigits_le (u := tx.size) (k := 18) (by omega); omega)
 refine d_call_last (i := 7) #[true, true, true, true, true, true, true, true, false, false] S rfl rfl rfl Tryz.func106 rfl rfl hcon (wanted_none rfl) rfl rfl (by kernel_rfl) rfl ?_
 rintro e w ⟨An6, cn6, own6, rfl, hn6, hH⟩
 refine ⟨_, rfl, ?_⟩; clear S a; intro a S; clear H hcon; have H := hH.unmid; clear hH
 rw [mw.sdec_nat] at S hn6
 refine d_pure (i := 8) #[true, true, true, true, true, true, true, true, true, false] S rfl (p_nilCheck rfl) (wanted_none rfl) rfl rfl (by kernel_rfl) hq108 ?_; clear S a; intro a S
 refine d_store (i := 9) #[true, true, true, true, true, true, true, true, true, true] S H rfl rfl rfl rfl .here (by first | decide | simp [Value.cells]) (fun w u hc hz => st1 sz34 rfl hc hz) (wanted_none rfl) rfl (by kernel_rfl) rfl ?_; clear S a H; intro w a H S
 refine d_done (by kernel_rfl) ?_
 refine e_then ?_
 refine wp_seq ?_
 refine d_start (id := 7) [5, 7] 8 #[false, false, false, false, false, false, false, false] H rfl rfl rfl (fun w H => ?_)
 refine d_pure (i := 0) #[true, false, false, false, false, false, false, false] S rfl (p_move rfl) (wanted_none rfl) rfl rfl (by kernel_rfl) hq108 ?_; clear S a; intro a S
 refine d_pure (i := 1) #[true, true, false, false, false, false, false, false] S rfl (p_move rfl) (wanted_none rfl) rfl rfl (by kernel_rfl) hq108 ?_; clear S a; intro a S
 refine d_pure (i := 2) #[true, true, true, false, false, false, false, false] S rfl (p_nilCheck rfl) (wanted_none rfl) rfl rfl (by kernel_rfl) hq108 ?_; clear S a; intro a S
 refine d_read (i := 3) #[true, true, true, true, false, false, false, false] S H rfl (r_load rfl List.mem_cons_self rfl (fun w hc => ld1 ag34 hc)) (wanted_none rfl) rfl rfl (by kernel_rfl) hq108 ?_; clear S a; intro a S
 have hcon := delim_ wb _ B _ H
 refine d_call (i := 4) #[true, true, true, true, true, false, false, false] S rfl rfl rfl Tryz.func107 rfl rfl hcon (wanted_none rfl) rfl rfl (by kernel_rfl) rfl ?_
 rintro e w ⟨gd7, rfl, hH⟩; refine ⟨_, rfl, hH.tail, ?_⟩; clear hcon H; have H := hH; clear hH; clear S a; intro a S
 refine d_ownB (i := 5) [_, _] (xs := ((([] : List Int) ++ [36]) ++ wq.dec tx.size)) (r := [13, 10]) #[true, true, true, true, true, true, false, false] S H rfl rfl rfl rfl hn6 (src_lit (vs := ([13, 10]).map (Value.int .u8)) H List.mem_cons_self Tryz.underlying34 (by simp [Value.oneCell'])) Tryz.underlying34 in5 rfl (by simp only [List.length_append, List.length_cons, List.length_nil, wq.dec_len, ints_len]; have := wq.nDigits_le (u := tx.size) (k := 18) (by omega); omega) (by decide) (wanted_none rfl) rfl rfl (by kernel_rfl) rfl ?_; clear S a H; intro An8 cn8 own8 w a hn8 H S
 replace H := H.tail
 replace H : HH B wb _ ((gb, .cells #[.slice An6 ((([] : List Int) ++ [36]) ++ wq.dec tx.size).length cn6] 34 (0, 0)) :: (own8 ++ (po' ++ ((g1, .cells #[.string tx, .bool false] 58 (0, 0)) :: (opt go bp br :: (bs ++ L0)))))) := H
 refine d_pure (i := 6) #[true, true, true, true, true, true, true, false] S rfl (p_nilCheck rfl) (wanted_none rfl) rfl rfl (by kernel_rfl) hq108 ?_; clear S a; intro a S
 refine d_store (i := 7) #[true, true, true, true, true, true, true, true] S H rfl rfl rfl rfl .here (by first | decide | simp [Value.cells]) (fun w u hc hz => st1 sz34 rfl hc hz) (wanted_none rfl) rfl (by kernel_rfl) rfl ?_; clear S a H; intro w a H S
 refine d_done (by kernel_rfl) ?_
 refine e_then ?_
 refine d_start (id := 8) [6, 8] 9 #[false, false, false, false, false, false, false, false, false] H rfl rfl rfl (fun w H => ?_)
 refine d_pure (i := 0) #[true, false, false, false, false, false, false, false, false] S rfl (p_move rfl) (wanted_none rfl) rfl rfl (by kernel_rfl) hq108 ?_; clear S a; intro a S
 refine d_pure (i := 1) #[true, true, false, false, false, false, false, false, false] S rfl (p_move rfl) (wanted_none rfl) rfl rfl (by kernel_rfl) hq108 ?_; clear S a; intro a S
 refine d_pure (i := 2) #[true, true, true, false, false, false, false, false, false] S rfl (p_nilCheck rfl) (wanted_none rfl) rfl rfl (by kernel_rfl) hq108 ?_; clear S a; intro a S
 refine d_read (i := 3) #[true, true, true, true, false, false, false, false, false] S H rfl (r_load rfl List.mem_cons_self rfl (fun w hc => ld1 ag34 hc)) (wanted_none rfl) rfl rfl (by kernel_rfl) hq108 ?_; clear S a; intro a S
 refine d_pure (i := 4) #[true, true, true, true, true, false, false, false, false] S rfl (p_fieldAddr rfl (fun w => fa58_0 w _ _)) (wanted_none rfl) rfl rfl (by kernel_rfl) hq108 ?_; clear S a; intro a S
 refine d_read (i := 5) #[true, true, true, true, true, true, false, false, false] S H rfl (r_load rfl (List.mem_cons_of_mem _ (List.mem_append_right _ (List.mem_append_right _ List.mem_cons_self))) rfl (fun w hc => ld1 ag9 hc)) (wanted_none rfl) rfl rfl (by kernel_rfl) hq108 ?_; clear S a; intro a S
 refine d_ownB (i := 6) [_] (xs := (((([] : List Int) ++ [36]) ++ wq.dec tx.size) ++ [13, 10])) (r := (ints tx)) #[true, true, true, true, true, true, true, false, false] S H rfl rfl rfl rfl hn8 (wq.src_str Tryz.underlying9 _) Tryz.underlying34 in5 rfl (by simp only [List.length_append, List.length_cons, List.length_nil, wq.dec_len, ints_len]; have := wq.nDigits_le (u := tx.size) (k := 18) (by omega); omega) (by decide) (wanted_none rfl) rfl rfl (by kernel_rfl) rfl ?_; clear S a H; intro An9 cn9 own9 w a hn9 H S
 replace H : HH B wb _ ((gb, .cells #[.slice An8 (((([] : List Int) ++ [36]) ++ wq.dec tx.size) ++ [13, 10]).length cn8] 34 (0, 0)) :: (own9 ++ (po' ++ ((g1, .cells #[.string tx, .bool false] 58 (0, 0)) :: (opt go bp br :: (bs ++ L0)))))) := H
 refine d_pure (i := 7) #[true, true, true, true, true, true, true, true, false] S rfl (p_nilCheck rfl) (wanted_none rfl) rfl rfl (by kernel_rfl) hq108 ?_; clear S a; intro a S
 refine d_store (i := 8) #[true, true, true, true, true, true, true, true, true] S H rfl rfl rfl rfl .here (by first | decide | simp [Value.cells]) (fun w u hc hz => st1 sz34 rfl hc hz) (wanted_none rfl) rfl (by kernel_rfl) rfl ?_; clear S a H; intro w a H S
 refine d_done (by kernel_rfl) ?_
 refine e_then ?_
 refine wp_seq ?_
 refine d_start (id := 9) [5, 7] 8 #[false, false, false, false, false, false, false, false] H rfl rfl rfl (fun w H => ?_)
 refine d_pure (i := 0) #[true, false, false, false, false, false, false, false] S rfl (p_move rfl) (wanted_none rfl) rfl rfl (by kernel_rfl) hq108 ?_; clear S a; intro a S
 refine d_pure (i := 1) #[true, true, false, false, false, false, false, false] S rfl (p_move rfl) (wanted_none rfl) rfl rfl (by kernel_rfl) hq108 ?_; clear S a; intro a S
 refine d_pure (i := 2) #[true, true, true, false, false, false, false, false] S rfl (p_nilCheck rfl) (wanted_none rfl) rfl rfl (by kernel_rfl) hq108 ?_; clear S a; intro a S
 refine d_read (i := 3) #[true, true, true, true, false, false, false, false] S H rfl (r_load rfl List.mem_cons_self rfl (fun w hc => ld1 ag34 hc)) (wanted_none rfl) rfl rfl (by kernel_rfl) hq108 ?_; clear S a; intro a S
 have hcon := delim_ wb _ B _ H
 refine d_call (i := 4) #[true, true, true, true, true, false, false, false] S rfl rfl rfl Tryz.func107 rfl rfl hcon (wanted_none rfl) rfl rfl (by kernel_rfl) rfl ?_
 rintro e w ⟨gd10, rfl, hH⟩; refine ⟨_, rfl, hH.tail, ?_⟩; clear hcon H; have H := hH; clear hH; clear S a; intro a S
 refine d_ownB (i := 5) [_, _] (xs := ((((([] : List Int) ++ [36]) ++ wq.dec tx.size) ++ [13, 10]) ++ (ints tx))) (r := [13, 10]) #[true, true, true, true, true, true, false, false] S H rfl rfl rfl rfl hn9 (src_lit (vs := ([13, 10]).map (Value.int .u8)) H List.mem_cons_self Tryz.underlying34 (by simp [Value.oneCell'])) Tryz.underlying34 in5 rfl (by simp only [List.length_append, List.length_cons, List.length_nil, wq.dec_len, ints_len]; have := wq.nDigits_le (u := tx.size) (k := 18) (by omega); omega) (by decide) (wanted_none rfl) rfl rfl (by kernel_rfl) rfl ?_; clear S a H; intro An11 cn11 own11 w a hn11 H S
 replace H := H.tail
 replace H : HH B wb _ ((gb, .cells #[.slice An9 ((((([] : List Int) ++ [36]) ++ wq.dec tx.size) ++ [13, 10]) ++ (ints tx)).length cn9] 34 (0, 0)) :: (own11 ++ (po' ++ ((g1, .cells #[.string tx, .bool false] 58 (0, 0)) :: (opt go bp br :: (bs ++ L0)))))) := H
 refine d_pure (i := 6) #[true, true, true, true, true, true, true, false] S rfl (p_nilCheck rfl) (wanted_none rfl) rfl rfl (by kernel_rfl) hq108 ?_; clear S a; intro a S
 refine d_store (i := 7) #[true, true, true, true, true, true, true, true] S H rfl rfl rfl rfl .here (by first | decide | simp [Value.cells]) (fun w u hc hz => st1 sz34 rfl hc hz) (wanted_none rfl) rfl (by kernel_rfl) rfl ?_; clear S a H; intro w a H S
 refine d_done (by kernel_rfl) ?_
 refine e_then ?_
 refine wp_seq ?_
 refine d_start (id := 10) [6] 12 #[false, false, false, false, false, false, false, false, false, false, false, false] H rfl rfl rfl (fun w H => ?_)
 refine d_pure (i := 0) #[true, false, false, false, false, false, false, false, false, false, false, false] S rfl (p_move rfl) (wanted_none rfl) rfl rfl (by kernel_rfl) hq108 ?_; clear S a; intro a S
 refine d_pure (i := 1) #[true, true, false, false, false, false, false, false, false, false, false, false] S rfl (p_move rfl) (wanted_none rfl) rfl rfl (by kernel_rfl) hq108 ?_; clear S a; intro a S
 refine d_pure (i := 2) #[true, true, true, false, false, false, false, false, false, false, false, false] S rfl (p_nilCheck rfl) (wanted_none rfl) rfl rfl (by kernel_rfl) hq108 ?_; clear S a; intro a S
 refine d_read (i := 3) #[true, true, true, true, false, false, false, false, false, false, false, false] S H rfl (r_load rfl List.mem_cons_self rfl (fun w hc => ld1 ag34 hc)) (wanted_none rfl) rfl rfl (by kernel_rfl) hq108 ?_; clear S a; intro a S
 refine d_pure (i := 4) #[true, true, true, true, true, false, false, false, false, false, false, false] S rfl (p_nilCheckI rfl) (wanted_none rfl) rfl rfl (by kernel_rfl) hq108 ?_; clear S a; intro a S
 refine d_pure (i := 5) #[true, true, true, true, true, true, false, false, false, false, false, false] S rfl (p_move rfl) (wanted_none rfl) rfl rfl (by kernel_rfl) hq108 ?_; clear S a; intro a S
 obtain ⟨gr, cr, fr, rfl, rfl, hlc, hcr, hth, hrow⟩ := rp.own_open hn11 (by simp only [List.length_append, List.length_cons, List.length_nil]; omega)
 replace H : HH B wb _ ((gb, .cells #[.slice (some ⟨gr, 0, none⟩) (((((([] : List Int) ++ [36]) ++ wq.dec tx.size) ++ [13, 10]) ++ (ints tx)) ++ [13, 10]).length cn11] 34 (0, 0)) :: ((gr, .cells cr 5 fr) :: (po' ++ ((g1, .cells #[.string tx, .bool false] 58 (0, 0)) :: (opt go bp br :: (bs ++ L0)))))) := H
 have H2 := HH.front (L1 := ((gb, .cells #[.slice (some ⟨gr, 0, none⟩) (((((([] : List Int) ++ [36]) ++ wq.dec tx.size) ++ [13, 10]) ++ (ints tx)) ++ [13, 10]).length cn11] 34 (0, 0)) :: ((gr, .cells cr 5 fr) :: (po' ++ ((g1, .cells #[.string tx, .bool false] 58 (0, 0)) :: [opt go bp br]))))) (S := bs) (L2 := L0) (HH.app H (by simp))
 have hcon := wr.bb.write_ wb _ B (((gb, .cells #[.slice (some ⟨gr, 0, none⟩) (((((([] : List Int) ++ [36]) ++ wq.dec tx.size) ++ [13, 10]) ++ (ints tx)) ++ [13, 10]).length cn11] 34 (0, 0)) :: ((gr, .cells cr 5 fr) :: (po' ++ ((g1, .cells #[.string tx, .bool false] 58 (0, 0)) :: [opt go bp br])))) ++ L0) b l bs hz gr 0 cn11 cr fr (((((([] : List Int) ++ [36]) ++ wq.dec tx.size) ++ [13, 10]) ++ (ints tx)) ++ [13, 10]) (by simp) hrow (by simp only [List.length_append, List.length_cons, List.length_nil]; omega) H2 (by simp only [List.length_append, List.length_cons, List.length_nil, wq.dec_len, ints_len]; have := wq.nDigits_le (u := tx.size) (k := 18) (by omega); omega)
 refine d_invoke_last (i := 6) #[true, true, true, true, true, true, true, false, false, false, false, false] S rfl rfl rfl rfl (meW _ _) Tryz.func157 rfl rfl hcon (wanted_none rfl) rfl rfl (by kernel_rfl) rfl ?_
 rintro e w ⟨rfl, bs2, hz2, hH⟩
 refine ⟨_, rfl, ?_⟩; clear S a; intro a S; clear H H2 hcon
 have H : HH B wb w ((gb, .cells #[.slice (some ⟨gr, 0, none⟩) (((((([] : List Int) ++ [36]) ++ wq.dec tx.size) ++ [13, 10]) ++ (ints tx)) ++ [13, 10]).length cn11] 34 (0, 0)) :: ((gr, .cells cr 5 fr) :: (po' ++ ((g1, .cells #[.string tx, .bool false] 58 (0, 0)) :: (opt go bp br :: (bs2 ++ L0)))))) := HH.app (HH.front (L1 := bs2) (S := ((gb, .cells #[.slice (some ⟨gr, 0, none⟩) (((((([] : List Int) ++ [36]) ++ wq.dec tx.size) ++ [13, 10]) ++ (ints tx)) ++ [13, 10]).length cn11] 34 (0, 0)) :: ((gr, .cells cr 5 fr) :: (po' ++ ((g1, .cells #[.string tx, .bool false] 58 (0, 0)) :: [opt go bp br]))))) (L2 := L0) hH) (by simp)
 clear hH
 refine d_pure (i := 7) #[true, true, true, true, true, true, true, true, false, false, false, false] S rfl (p_move rfl) (wanted_none rfl) rfl rfl (by kernel_rfl) hq108 ?_; clear S a; intro a S
 refine d_pure (i := 8) #[true, true, true, true, true, true, true, true, true, false, false, false] S rfl (p_extract rfl rfl) (wanted_none rfl) rfl rfl (by kernel_rfl) hq108 ?_; clear S a; intro a S
 refine d_pure (i := 9) #[true, true, true, true, true, true, true, true, true, true, false, false] S rfl (p_extract rfl rfl) (wanted_none rfl) rfl rfl (by kernel_rfl) hq108 ?_; clear S a; intro a S
 refine d_pure (i := 10) #[true, true, true, true, true, true, true, true, true, true, true, false] S rfl (p_assign rfl) (wanted_none rfl) rfl rfl (by kernel_rfl) hq108 ?_; clear S a; intro a S
 refine d_pure (i := 11) #[true, true, true, true, true, true, true, true, true, true, true, true] S rfl (p_assign rfl) (wanted_none rfl) rfl rfl (by kernel_rfl) hq108 ?_; clear S a; intro a S
 refine d_done (by kernel_rfl) ?_
 refine e_then ?_
 refine wp_seq ?_
 refine c_region ?_
 refine l_mv 2 S rfl ?_; clear S a; intro a S
 refine l_nil ?_
 refine e_then ?_
 refine wp_ret ?_
 refine r_doorA S (wr.pl.put_ wb _ B ((g1, .cells #[.string tx, .bool false] 58 (0, 0)) :: (opt go bp br :: (bs2 ++ L0))) bp gb cn11 (some ⟨gr, 0, none⟩) (((((([] : List Int) ++ [36]) ++ wq.dec tx.size) ++ [13, 10]) ++ (ints tx)) ++ [13, 10]) po' [(gr, .cells cr 5 fr)] hp' hn11 H) (invokesA (vs := [.pointer (some ⟨bp, 0, none⟩), .pointer (some ⟨gb, 0, none⟩)]) (caps := []) Tryz.func24 rfl rfl) (fun w' _ => res_t1 rfl rfl) ?_
 rintro w' ⟨po2, hp2, hH⟩
 have H3 := HH.front (L1 := po2) (S := ((g1, .cells #[.string tx, .bool false] 58 (0, 0)) :: [opt go bp br])) (L2 := bs2 ++ L0) (HH.app hH (by simp))
 exact ⟨rfl, _, ⟨br, po2, bs2, hp2, by simpa [mw.bl] using hz2, rfl⟩, HH.app (L := (opt go bp br :: (po2 ++ (bs2 ++ L0)))) (L' := (opt go bp br :: (po2 ++ bs2)) ++ L0) (HH.app (L' := ((g1, .cells #[.string tx, .bool false] 58 (0, 0)) :: (opt go bp br :: (po2 ++ (bs2 ++ L0))))) H3 (by simp)).tail (by simp)⟩
set_option maxHeartbeats 1000000 in
theorem bsbt_ (wb w0 : World) (B : Nat) (L0 : dc.Bk) (go bp b : Nat) (l : List Int) (ls : List (Nat × Obj)) (hE : Env go bp b l ls) (ht : Lib.TabBelow Tryz.prog B wb "internal/strconv.uint64pow10" .u64 Lib.pow10Tab) (hT : fz.PTab 3 B wb) (H : HH B wb w0 (ls ++ L0)) (hl : l.length ≤ 10000000) (Ax : Option Addr) (cx : Nat) (x : List Int) (ox : List (Nat × Obj)) (hox : OwnB 5 (.slice Ax x.length cx) x ox) (hsx : ∀ p ∈ ox, p ∈ L0) (hx : x.length ≤ 10000000) : Calls Tryz.prog 104 #[.agg #[.slice Ax x.length cx, .bool true], .iface 46 (.pointer (some ⟨b, 0, none⟩)), .pointer (some ⟨go, 0, none⟩)] w0 fun e w' => e = .returned .nilIface ∧ ∃ ls', Env go bp b (l ++ ([36, 63, 13, 10])) ls' ∧ HH B wb w' (ls' ++ L0) := by
 obtain ⟨br, po, bs, hp, hz, rfl⟩ := hE
 replace H : HH B wb w0 (opt go bp br :: (po ++ (bs ++ L0))) := HH.app H (by simp)
 refine c_enter_d (args := [.agg #[.slice Ax x.length cx, .bool true], .iface 46 (.pointer (some ⟨b, 0, none⟩)), .pointer (some ⟨go, 0, none⟩)]) (k := 75) Tryz.func104 rfl rfl rfl (fun a S => ?_)
 refine wp_seq ?_
 refine c_region ?_
 refine l_box (cs := #[.slice Ax x.length cx, .bool true]) S H rfl rfl (fun w => bx) rfl rfl rfl ?_; clear S a H; intro g1 w a H S
 refine l_mv 1 S rfl ?_; clear S a; intro a S
 refine l_nil ?_
 refine e_then ?_
 refine wp_seq ?_
 refine c_region ?_
 refine l_mv 2 S rfl ?_; clear S a; intro a S
 refine l_pure S (p_fieldAddr rfl (fun w => fa102_0 w _ _)) rfl rfl rfl ?_; clear S a; intro a S
 refine l_read S H (r_load rfl (List.mem_cons_of_mem _ List.mem_cons_self) rfl (fun w hc => ld1 ag84 hc)) rfl rfl rfl ?_; clear S a; intro a S
 replace H : HH B wb _ ((g1, .cells #[.slice Ax x.length cx, .bool true] 56 (0, 0)) :: (opt go bp br :: (po ++ (bs ++ L0)))) := H
 replace H : HH B wb _ (po ++ ((g1, .cells #[.slice Ax x.length cx, .bool true] 56 (0, 0)) :: (opt go bp br :: (bs ++ L0)))) := HH.app (HH.front (L1 := ((g1, .cells #[.slice Ax x.length cx, .bool true] 56 (0, 0)) :: [opt go bp br])) (S := po) (L2 := (bs ++ L0)) (HH.app H (by simp))) (by simp)
 have hcon := wr.pl.get_ wb _ B ((g1, .cells #[.slice Ax x.length cx, .bool true] 56 (0, 0)) :: (opt go bp br :: (bs ++ L0))) bp po hp H
 refine l_callv (us := [.pointer (some ⟨bp, 0, none⟩)]) (cs := []) S rfl rfl rfl Tryz.func23 rfl rfl hcon rfl rfl rfl ?_
 rintro e w ⟨po', hp', gb, A0, c0, ow0, rfl, hown0, hH⟩
 refine ⟨_, rfl, ?_⟩; clear S a; intro a S; clear H hcon; have H := hH; clear hH
 refine l_mv 1 S rfl ?_; clear S a; intro a S
 refine l_nil ?_
 refine e_then ?_
 refine wp_seq ?_
 refine c_region ?_
 refine l_mv 2 S rfl ?_; clear S a; intro a S
 refine l_pure S (p_fieldAddr rfl (fun w => fa102_1 w _ _)) rfl rfl rfl ?_; clear S a; intro a S
 refine l_read S H (r_load rfl (List.mem_cons_of_mem _ (List.mem_append_right _ (List.mem_append_right _ (List.mem_cons_of_mem _ List.mem_cons_self)))) rfl (fun w hc => ld1 ag85 hc)) rfl rfl rfl ?_; clear S a; intro a S
 refine l_mv 1 S rfl ?_; clear S a; intro a S
 refine l_defer (xs := [.tmp 19]) (us := [.pointer (some ⟨bp, 0, none⟩)]) (cs := []) (vs := [.pointer (some ⟨gb, 0, none⟩)]) S rfl rfl rfl rfl rfl ?_; clear S a; intro a S
 refine l_nil ?_
 refine e_then ?_
 refine wp_seq ?_
 refine c_region ?_
 refine l_mv 3 S rfl ?_; clear S a; intro a S
 refine l_read S H (r_load rfl List.mem_cons_self rfl (fun w hc => ld1 ag34 hc)) rfl rfl rfl ?_; clear S a; intro a S
 refine l_lit [(.const (.int .u8 36))] S H rfl rfl Tryz.underlying34 sz5 zv5 rfl rfl (by simp [Value.cells]) rfl rfl rfl ?_; clear S a H; intro g2 w a H S
 refine l_ownB [_, _] (l := ([] : List Int)) (r := [36]) S H rfl rfl rfl hown0 (src_lit (vs := ([36]).map (Value.int .u8)) H List.mem_cons_self Tryz.underlying34 (by simp [Value.oneCell'])) Tryz.underlying34 in5 rfl (by simp only [List.length_append, List.length_cons, List.length_nil, wq.dec_len, ints_len]; have := wq.nDigits_le (u := x.length) (k := 18) (by omega); omega) (by decide) rfl rfl rfl ?_; clear S a H; intro An3 cn3 own3 w a hn3 H S
 replace H := H.tail
 replace H : HH B wb _ ((gb, .cells #[.slice A0 ([] : List Int).length c0] 34 (0, 0)) :: (own3 ++ (po' ++ ((g1, .cells #[.slice Ax x.length cx, .bool true] 56 (0, 0)) :: (opt go bp br :: (bs ++ L0)))))) := H
 refine l_mv 1 S rfl ?_; clear S a; intro a S
 refine l_store S H rfl rfl rfl .here (by first | decide | simp [Value.cells]) (fun w u hc hz => st1 sz34 rfl hc hz) rfl rfl ?_; clear S a H; intro w a H S
 refine l_nil ?_
 refine e_then ?_
 refine wp_seq ?_
 refine wp_seq ?_
 refine c_region ?_
 refine l_pure S (p_fieldAddr rfl (fun w => fa56_1 w _ _)) rfl rfl rfl ?_; clear S a; intro a S
 refine l_read S H (r_load rfl (List.mem_cons_of_mem _ (List.mem_append_right _ (List.mem_append_right _ List.mem_cons_self))) rfl (fun w hc => ld1 ag4 hc)) rfl rfl rfl ?_; clear S a; intro a S
 refine l_nil ?_
 refine e_then ?_
 refine c_cond (b := true) S rfl (fun _ => ?_) (fun h => by cases h)
 refine d_start (id := 5) [5, 7] 8 #[false, false, false, false, false, false, false, false] H rfl rfl rfl (fun w H => ?_)
 refine d_pure (i := 0) #[true, false, false, false, false, false, false, false] S rfl (p_move rfl) (wanted_none rfl) rfl rfl (by kernel_rfl) hq104 ?_; clear S a; intro a S
 refine d_pure (i := 1) #[true, true, false, false, false, false, false, false] S rfl (p_move rfl) (wanted_none rfl) rfl rfl (by kernel_rfl) hq104 ?_; clear S a; intro a S
 refine d_pure (i := 2) #[true, true, true, false, false, false, false, false] S rfl (p_nilCheck rfl) (wanted_none rfl) rfl rfl (by kernel_rfl) hq104 ?_; clear S a; intro a S
 refine d_read (i := 3) #[true, true, true, true, false, false, false, false] S H rfl (r_load rfl List.mem_cons_self rfl (fun w hc => ld1 ag34 hc)) (wanted_none rfl) rfl rfl (by kernel_rfl) hq104 ?_; clear S a; intro a S
 have hcon := streamHeaderSize_ wb _ B _ H
 refine d_call (i := 4) #[true, true, true, true, true, false, false, false] S rfl rfl rfl Tryz.func105 rfl rfl hcon (wanted_none rfl) rfl rfl (by kernel_rfl) rfl ?_
 rintro e w ⟨gd6, rfl, hH⟩; refine ⟨_, rfl, hH.tail, ?_⟩; clear hcon H; have H := hH; clear hH; clear S a; intro a S
 refine d_ownB (i := 5) [_, _] (xs := (([] : List Int) ++ [36])) (r := [63]) #[true, true, true, true, true, true, false, false] S H rfl rfl rfl rfl hn3 (src_lit (vs := ([63]).map (Value.int .u8)) H List.mem_cons_self Tryz.underlying34 (by simp [Value.oneCell'])) Tryz.underlying34 in5 rfl (by simp only [List.length_append, List.length_cons, List.length_nil, wq.dec_len, ints_len]; have := wq.nDigits_le (u := x.length) (k := 18) (by omega); omega) (by decide) (wanted_none rfl) rfl rfl (by kernel_rfl) rfl ?_; clear S a H; intro An7 cn7 own7 w a hn7 H S
 replace H := H.tail
 replace H : HH B wb _ ((gb, .cells #[.slice An3 (([] : List Int) ++ [36]).length cn3] 34 (0, 0)) :: (own7 ++ (po' ++ ((g1, .cells #[.slice Ax x.length cx, .bool true] 56 (0, 0)) :: (opt go bp br :: (bs ++ L0)))))) := H
 refine d_pure (i := 6) #[true, true, true, true, true, true, true, false] S rfl (p_nilCheck rfl) (wanted_none rfl) rfl rfl (by kernel_rfl) hq104 ?_; clear S a; intro a S
 refine d_store (i := 7) #[true, true, true, true, true, true, true, true] S H rfl rfl rfl rfl .here (by first | decide | simp [Value.cells]) (fun w u hc hz => st1 sz34 rfl hc hz) (wanted_none rfl) rfl (by kernel_rfl) rfl ?_; clear S a H; intro w a H S
 refine d_done (by kernel_rfl) ?_
 refine e_then ?_
 refine wp_seq ?_
 refine d_start (id := 9) [5, 7] 8 #[false, false, false, false, false, false, false, false] H rfl rfl rfl (fun w H => ?_)
 refine d_pure (i := 0) #[true, false, false, false, false, false, false, false] S rfl (p_move rfl) (wanted_none rfl) rfl rfl (by kernel_rfl) hq104 ?_; clear S a; intro a S
 refine d_pure (i := 1) #[true, true, false, false, false, false, false, false] S rfl (p_move rfl) (wanted_none rfl) rfl rfl (by kernel_rfl) hq104 ?_; clear S a; intro a S
 refine d_pure (i := 2) #[true, true, true, false, false, false, false, false] S rfl (p_nilCheck rfl) (wanted_none rfl) rfl rfl (by kernel_rfl) hq104 ?_; clear S a; intro a S
 refine d_read (i := 3) #[true, true, true, true, false, false, false, false] S H rfl (r_load rfl List.mem_cons_self rfl (fun w hc => ld1 ag34 hc)) (wanted_none rfl) rfl rfl (by kernel_rfl) hq104 ?_; clear S a; intro a S
 have hcon := delim_ wb _ B _ H
 refine d_call (i := 4) #[true, true, true, true, true, false, false, false] S rfl rfl rfl Tryz.func107 rfl rfl hcon (wanted_none rfl) rfl rfl (by kernel_rfl) rfl ?_
 rintro e w ⟨gd8, rfl, hH⟩; refine ⟨_, rfl, hH.tail, ?_⟩; clear hcon H; have H := hH; clear hH; clear S a; intro a S
 refine d_ownB (i := 5) [_, _] (xs := ((([] : List Int) ++ [36]) ++ [63])) (r := [13, 10]) #[true, true, true, true, true, true, false, false] S H rfl rfl rfl rfl hn7 (src_lit (vs := ([13, 10]).map (Value.int .u8)) H List.mem_cons_self Tryz.underlying34 (by simp [Value.oneCell'])) Tryz.underlying34 in5 rfl (by simp only [List.length_append, List.length_cons, List.length_nil, wq.dec_len, ints_len]; have := wq.nDigits_le (u := x.length) (k := 18) (by omega); omega) (by decide) (wanted_none rfl) rfl rfl (by kernel_rfl) rfl ?_; clear S a H; intro An9 cn9 own9 w a hn9 H S
 replace H := H.tail
 replace H : HH B wb _ ((gb, .cells #[.slice An7 ((([] : List Int) ++ [36]) ++ [63]).length cn7] 34 (0, 0)) :: (own9 ++ (po' ++ ((g1, .cells #[.slice Ax x.length cx, .bool true] 56 (0, 0)) :: (opt go bp br :: (bs ++ L0)))))) := H
 refine d_pure (i := 6) #[true, true, true, true, true, true, true, false] S rfl (p_nilCheck rfl) (wanted_none rfl) rfl rfl (by kernel_rfl) hq104 ?_; clear S a; intro a S
 refine d_store (i := 7) #[true, true, true, true, true, true, true, true] S H rfl rfl rfl rfl .here (by first | decide | simp [Value.cells]) (fun w u hc hz => st1 sz34 rfl hc hz) (wanted_none rfl) rfl (by kernel_rfl) rfl ?_; clear S a H; intro w a H S
 refine d_done (by kernel_rfl) ?_
 refine e_then ?_
 refine wp_seq ?_
 refine d_start (id := 10) [6] 12 #[false, false, false, false, false, false, false, false, false, false, false, false] H rfl rfl rfl (fun w H => ?_)
 refine d_pure (i := 0) #[true, false, false, false, false, false, false, false, false, false, false, false] S rfl (p_move rfl) (wanted_none rfl) rfl rfl (by kernel_rfl) hq104 ?_; clear S a; intro a S
 refine d_pure (i := 1) #[true, true, false, false, false, false, false, false, false, false, false, false] S rfl (p_move rfl) (wanted_none rfl) rfl rfl (by kernel_rfl) hq104 ?_; clear S a; intro a S
 refine d_pure (i := 2) #[true, true, true, false, false, false, false, false, false, false, false, false] S rfl (p_nilCheck rfl) (wanted_none rfl) rfl rfl (by kernel_rfl) hq104 ?_; clear S a; intro a S
 refine d_read (i := 3) #[true, true, true, true, false, false, false, false, false, false, false, false] S H rfl (r_load rfl List.mem_cons_self rfl (fun w hc => ld1 ag34 hc)) (wanted_none rfl) rfl rfl (by kernel_rfl) hq104 ?_; clear S a; intro a S
 refine d_pure (i := 4) #[true, true, true, true, true, false, false, false, false, false, false, false] S rfl (p_nilCheckI rfl) (wanted_none rfl) rfl rfl (by kernel_rfl) hq104 ?_; clear S a; intro a S
 refine d_pure (i := 5) #[true, true, true, true, true, true, false, false, false, false, false, false] S rfl (p_move rfl) (wanted_none rfl) rfl rfl (by kernel_rfl) hq104 ?_; clear S a; intro a S
 obtain ⟨gr, cr, fr, rfl, rfl, hlc, hcr, hth, hrow⟩ := rp.own_open hn9 (by simp only [List.length_append, List.length_cons, List.length_nil]; omega)
 replace H : HH B wb _ ((gb, .cells #[.slice (some ⟨gr, 0, none⟩) (((([] : List Int) ++ [36]) ++ [63]) ++ [13, 10]).length cn9] 34 (0, 0)) :: ((gr, .cells cr 5 fr) :: (po' ++ ((g1, .cells #[.slice Ax x.length cx, .bool true] 56 (0, 0)) :: (opt go bp br :: (bs ++ L0)))))) := H
 have H2 := HH.front (L1 := ((gb, .cells #[.slice (some ⟨gr, 0, none⟩) (((([] : List Int) ++ [36]) ++ [63]) ++ [13, 10]).length cn9] 34 (0, 0)) :: ((gr, .cells cr 5 fr) :: (po' ++ ((g1, .cells #[.slice Ax x.length cx, .bool true] 56 (0, 0)) :: [opt go bp br]))))) (S := bs) (L2 := L0) (HH.app H (by simp))
 have hcon := wr.bb.write_ wb _ B (((gb, .cells #[.slice (some ⟨gr, 0, none⟩) (((([] : List Int) ++ [36]) ++ [63]) ++ [13, 10]).length cn9] 34 (0, 0)) :: ((gr, .cells cr 5 fr) :: (po' ++ ((g1, .cells #[.slice Ax x.length cx, .bool true] 56 (0, 0)) :: [opt go bp br])))) ++ L0) b l bs hz gr 0 cn9 cr fr (((([] : List Int) ++ [36]) ++ [63]) ++ [13, 10]) (by simp) hrow (by simp only [List.length_append, List.length_cons, List.length_nil]; omega) H2 (by simp only [List.length_append, List.length_cons, List.length_nil, wq.dec_len, ints_len]; have := wq.nDigits_le (u := x.length) (k := 18) (by omega); omega)
 refine d_invoke_last (i := 6) #[true, true, true, true, true, true, true, false, false, false, false, false] S rfl rfl rfl rfl (meW _ _) Tryz.func157 rfl rfl hcon (wanted_none rfl) rfl rfl (by kernel_rfl) rfl ?_
 rintro e w ⟨rfl, bs2, hz2, hH⟩
 refine ⟨_, rfl, ?_⟩; clear S a; intro a S; clear H H2 hcon
 have H : HH B wb w ((gb, .cells #[.slice (some ⟨gr, 0, none⟩) (((([] : List Int) ++ [36]) ++ [63]) ++ [13, 10]).length cn9] 34 (0, 0)) :: ((gr, .cells cr 5 fr) :: (po' ++ ((g1, .cells #[.slice Ax x.length cx, .bool true] 56 (0, 0)) :: (opt go bp br :: (bs2 ++ L0)))))) := HH.app (HH.front (L1 := bs2) (S := ((gb, .cells #[.slice (some ⟨gr, 0, none⟩) (((([] : List Int) ++ [36]) ++ [63]) ++ [13, 10]).length cn9] 34 (0, 0)) :: ((gr, .cells cr 5 fr) :: (po' ++ ((g1, .cells #[.slice Ax x.length cx, .bool true] 56 (0, 0)) :: [opt go bp br]))))) (L2 := L0) hH) (by simp)
 clear hH
 refine d_pure (i := 7) #[true, true, true, true, true, true, true, true, false, false, false, false] S rfl (p_move rfl) (wanted_none rfl) rfl rfl (by kernel_rfl) hq104 ?_; clear S a; intro a S
 refine d_pure (i := 8) #[true, true, true, true, true, true, true, true, true, false, false, false] S rfl (p_extract rfl rfl) (wanted_none rfl) rfl rfl (by kernel_rfl) hq104 ?_; clear S a; intro a S
 refine d_pure (i := 9) #[true, true, true, true, true, true, true, true, true, true, false, false] S rfl (p_extract rfl rfl) (wanted_none rfl) rfl rfl (by kernel_rfl) hq104 ?_; clear S a; intro a S
 refine d_pure (i := 10) #[true, true, true, true, true, true, true, true, true, true, true, false] S rfl (p_assign rfl) (wanted_none rfl) rfl rfl (by kernel_rfl) hq104 ?_; clear S a; intro a S
 refine d_pure (i := 11) #[true, true, true, true, true, true, true, true, true, true, true, true] S rfl (p_assign rfl) (wanted_none rfl) rfl rfl (by kernel_rfl) hq104 ?_; clear S a; intro a S
 refine d_done (by kernel_rfl) ?_
 refine e_then ?_
 refine wp_seq ?_
 refine c_region ?_
 refine l_mv 2 S rfl ?_; clear S a; intro a S
 refine l_nil ?_
 refine e_then ?_
 refine wp_ret ?_
 refine r_doorA S (wr.pl.put_ wb _ B ((g1, .cells #[.slice Ax x.length cx, .bool true] 56 (0, 0)) :: (opt go bp br :: (bs2 ++ L0))) bp gb cn9 (some ⟨gr, 0, none⟩) (((([] : List Int) ++ [36]) ++ [63]) ++ [13, 10]) po' [(gr, .cells cr 5 fr)] hp' hn9 H) (invokesA (vs := [.pointer (some ⟨bp, 0, none⟩), .pointer (some ⟨gb, 0, none⟩)]) (caps := []) Tryz.func24 rfl rfl) (fun w' _ => res_t1 rfl rfl) ?_
 rintro w' ⟨po2, hp2, hH⟩
 have H3 := HH.front (L1 := po2) (S := ((g1, .cells #[.slice Ax x.length cx, .bool true] 56 (0, 0)) :: [opt go bp br])) (L2 := bs2 ++ L0) (HH.app hH (by simp))
 exact ⟨rfl, _, ⟨br, po2, bs2, hp2, by simpa [mw.bl] using hz2, rfl⟩, HH.app (L := (opt go bp br :: (po2 ++ (bs2 ++ L0)))) (L' := (opt go bp br :: (po2 ++ bs2)) ++ L0) (HH.app (L' := ((g1, .cells #[.slice Ax x.length cx, .bool true] 56 (0, 0)) :: (opt go bp br :: (po2 ++ (bs2 ++ L0))))) H3 (by simp)).tail (by simp)⟩
set_option maxHeartbeats 1000000 in
theorem bsbf_ (wb w0 : World) (B : Nat) (L0 : dc.Bk) (go bp b : Nat) (l : List Int) (ls : List (Nat × Obj)) (hE : Env go bp b l ls) (ht : Lib.TabBelow Tryz.prog B wb "internal/strconv.uint64pow10" .u64 Lib.pow10Tab) (hT : fz.PTab 3 B wb) (H : HH B wb w0 (ls ++ L0)) (hl : l.length ≤ 10000000) (Ax : Option Addr) (cx : Nat) (x : List Int) (ox : List (Nat × Obj)) (hox : OwnB 5 (.slice Ax x.length cx) x ox) (hsx : ∀ p ∈ ox, p ∈ L0) (hx : x.length ≤ 10000000) : Calls Tryz.prog 104 #[.agg #[.slice Ax x.length cx, .bool false], .iface 46 (.pointer (some ⟨b, 0, none⟩)), .pointer (some ⟨go, 0, none⟩)] w0 fun e w' => e = .returned .nilIface ∧ ∃ ls', Env go bp b (l ++ (mw.bl 36 x.length (x))) ls' ∧ HH B wb w' (ls' ++ L0) := by
 obtain ⟨br, po, bs, hp, hz, rfl⟩ := hE
 replace H : HH B wb w0 (opt go bp br :: (po ++ (bs ++ L0))) := HH.app H (by simp)
 refine c_enter_d (args := [.agg #[.slice Ax x.length cx, .bool false], .iface 46 (.pointer (some ⟨b, 0, none⟩)), .pointer (some ⟨go, 0, none⟩)]) (k := 75) Tryz.func104 rfl rfl rfl (fun a S => ?_)
 refine wp_seq ?_
 refine c_region ?_
 refine l_box (cs := #[.slice Ax x.length cx, .bool false]) S H rfl rfl (fun w => bx) rfl rfl rfl ?_; clear S a H; intro g1 w a H S
 refine l_mv 1 S rfl ?_; clear S a; intro a S
 refine l_nil ?_
 refine e_then ?_
 refine wp_seq ?_
 refine c_region ?_
 refine l_mv 2 S rfl ?_; clear S a; intro a S
 refine l_pure S (p_fieldAddr rfl (fun w => fa102_0 w _ _)) rfl rfl rfl ?_; clear S a; intro a S
 refine l_read S H (r_load rfl (List.mem_cons_of_mem _ List.mem_cons_self) rfl (fun w hc => ld1 ag84 hc)) rfl rfl rfl ?_; clear S a; intro a S
 replace H : HH B wb _ ((g1, .cells #[.slice Ax x.length cx, .bool false] 56 (0, 0)) :: (opt go bp br :: (po ++ (bs ++ L0)))) := H
 replace H : HH B wb _ (po ++ ((g1, .cells #[.slice Ax x.length cx, .bool false] 56 (0, 0)) :: (opt go bp br :: (bs ++ L0)))) := HH.app (HH.front (L1 := ((g1, .cells #[.slice Ax x.length cx, .bool false] 56 (0, 0)) :: [opt go bp br])) (S := po) (L2 := (bs ++ L0)) (HH.app H (by simp))) (by simp)
 have hcon := wr.pl.get_ wb _ B ((g1, .cells #[.slice Ax x.length cx, .bool false] 56 (0, 0)) :: (opt go bp br :: (bs ++ L0))) bp po hp H
 refine l_callv (us := [.pointer (some ⟨bp, 0, none⟩)]) (cs := []) S rfl rfl rfl Tryz.func23 rfl rfl hcon rfl rfl rfl ?_
 rintro e w ⟨po', hp', gb, A0, c0, ow0, rfl, hown0, hH⟩
 refine ⟨_, rfl, ?_⟩; clear S a; intro a S; clear H hcon; have H := hH; clear hH
 refine l_mv 1 S rfl ?_; clear S a; intro a S
 refine l_nil ?_
 refine e_then ?_
 refine wp_seq ?_
 refine c_region ?_
 refine l_mv 2 S rfl ?_; clear S a; intro a S
 refine l_pure S (p_fieldAddr rfl (fun w => fa102_1 w _ _)) rfl rfl rfl ?_; clear S a; intro a S
 refine l_read S H (r_load rfl (List.mem_cons_of_mem _ (List.mem_append_right _ (List.mem_append_right _ (List.mem_cons_of_mem _ List.mem_cons_self)))) rfl (fun w hc => ld1 ag85 hc)) rfl rfl rfl ?_; clear S a; intro a S
 refine l_mv 1 S rfl ?_; clear S a; intro a S
 refine l_defer (xs := [.tmp 19]) (us := [.pointer (some ⟨bp, 0, none⟩)]) (cs := []) (vs := [.pointer (some ⟨gb, 0, none⟩)]) S rfl rfl rfl rfl rfl ?_; clear S a; intro a S
 refine l_nil ?_
 refine e_then ?_
 refine wp_seq ?_
 refine c_region ?_
 refine l_mv 3 S rfl ?_; clear S a; intro a S
 refine l_read S H (r_load rfl List.mem_cons_self rfl (fun w hc => ld1 ag34 hc)) rfl rfl rfl ?_; clear S a; intro a S
 refine l_lit [(.const (.int .u8 36))] S H rfl rfl Tryz.underlying34 sz5 zv5 rfl rfl (by simp [Value.cells]) rfl rfl rfl ?_; clear S a H; intro g2 w a H S
 refine l_ownB [_, _] (l := ([] : List Int)) (r := [36]) S H rfl rfl rfl hown0 (src_lit (vs := ([36]).map (Value.int .u8)) H List.mem_cons_self Tryz.underlying34 (by simp [Value.oneCell'])) Tryz.underlying34 in5 rfl (by simp only [List.length_append, List.length_cons, List.length_nil, wq.dec_len, ints_len]; have := wq.nDigits_le (u := x.length) (k := 18) (by omega); omega) (by decide) rfl rfl rfl ?_; clear S a H; intro An3 cn3 own3 w a hn3 H S
 replace H := H.tail
 replace H : HH B wb _ ((gb, .cells #[.slice A0 ([] : List Int).length c0] 34 (0, 0)) :: (own3 ++ (po' ++ ((g1, .cells #[.slice Ax x.length cx, .bool false] 56 (0, 0)) :: (opt go bp br :: (bs ++ L0)))))) := H
 refine l_mv 1 S rfl ?_; clear S a; intro a S
 refine l_store S H rfl rfl rfl .here (by first | decide | simp [Value.cells]) (fun w u hc hz => st1 sz34 rfl hc hz) rfl rfl ?_; clear S a H; intro w a H S
 refine l_nil ?_
 refine e_then ?_
 refine wp_seq ?_
 refine wp_seq ?_
 refine c_region ?_
 refine l_pure S (p_fieldAddr rfl (fun w => fa56_1 w _ _)) rfl rfl rfl ?_; clear S a; intro a S
 refine l_read S H (r_load rfl (List.mem_cons_of_mem _ (List.mem_append_right _ (List.mem_append_right _ List.mem_cons_self))) rfl (fun w hc => ld1 ag4 hc)) rfl rfl rfl ?_; clear S a; intro a S
 refine l_nil ?_
 refine e_then ?_
 refine c_cond (b := false) S rfl (fun h => by cases h) (fun _ => ?_)
 refine wp_seq ?_
 refine d_start (id := 6) [7, 9] 10 #[false, false, false, false, false, false, false, false, false, false] H rfl rfl rfl (fun w H => ?_)
 refine d_pure (i := 0) #[true, false, false, false, false, false, false, false, false, false] S rfl (p_move rfl) (wanted_none rfl) rfl rfl (by kernel_rfl) hq104 ?_; clear S a; intro a S
 refine d_pure (i := 1) #[true, true, false, false, false, false, false, false, false, false] S rfl (p_move rfl) (wanted_none rfl) rfl rfl (by kernel_rfl) hq104 ?_; clear S a; intro a S
 refine d_pure (i := 2) #[true, true, true, false, false, false, false, false, false, false] S rfl (p_nilCheck rfl) (wanted_none rfl) rfl rfl (by kernel_rfl) hq104 ?_; clear S a; intro a S
 refine d_read (i := 3) #[true, true, true, true, false, false, false, false, false, false] S H rfl (r_load rfl List.mem_cons_self rfl (fun w hc => ld1 ag34 hc)) (wanted_none rfl) rfl rfl (by kernel_rfl) hq104 ?_; clear S a; intro a S
 refine d_pure (i := 4) #[true, true, true, true, true, false, false, false, false, false] S rfl (p_fieldAddr rfl (fun w => fa56_0 w _ _)) (wanted_none rfl) rfl rfl (by kernel_rfl) hq104 ?_; clear S a; intro a S
 refine d_read (i := 5) #[true, true, true, true, true, true, false, false, false, false] S H rfl (r_load rfl (List.mem_cons_of_mem _ (List.mem_append_right _ (List.mem_append_right _ List.mem_cons_self))) rfl (fun w hc => ld1 ag34 hc)) (wanted_none rfl) rfl rfl (by kernel_rfl) hq104 ?_; clear S a; intro a S
 refine d_pure (i := 6) #[true, true, true, true, true, true, true, false, false, false] S rfl (p_len Tryz.underlying34 rfl) (wanted_none rfl) rfl rfl (by kernel_rfl) hq104 ?_; clear S a; intro a S
 have hcon := nm.appI_ wb _ B ((gb, .cells #[.slice An3 (([] : List Int) ++ [36]).length cn3] 34 (0, 0)) :: (po' ++ ((g1, .cells #[.slice Ax x.length cx, .bool false] 56 (0, 0)) :: (opt go bp br :: (bs ++ L0))))) ht hT An3 cn3 ((x.length : Nat) : Int) (([] : List Int) ++ [36]) own3 hn3 H.mid (by have := wq.nDigits_le (u := x.length) (k := 18) (by omega); omega) (by simp only [List.length_append, List.length_cons, List.length_nil, wq.dec_len, ints_len]; have := wq.nDigits_le (u := x.length) (k := 18) (by omega); omega)
 refine d_call_last (i := 7) #[true, true, true, true, true, true, true, true, false, false] S rfl rfl rfl Tryz.func106 rfl rfl hcon (wanted_none rfl) rfl rfl (by kernel_rfl) rfl ?_
 rintro e w ⟨An6, cn6, own6, rfl, hn6, hH⟩
 refine ⟨_, rfl, ?_⟩; clear S a; intro a S; clear H hcon; have H := hH.unmid; clear hH
 rw [mw.sdec_nat] at S hn6
 refine d_pure (i := 8) #[true, true, true, true, true, true, true, true, true, false] S rfl (p_nilCheck rfl) (wanted_none rfl) rfl rfl (by kernel_rfl) hq104 ?_; clear S a; intro a S
 refine d_store (i := 9) #[true, true, true, true, true, true, true, true, true, true] S H rfl rfl rfl rfl .here (by first | decide | simp [Value.cells]) (fun w u hc hz => st1 sz34 rfl hc hz) (wanted_none rfl) rfl (by kernel_rfl) rfl ?_; clear S a H; intro w a H S
 refine d_done (by kernel_rfl) ?_
 refine e_then ?_
 refine wp_seq ?_
 refine d_start (id := 7) [5, 7] 8 #[false, false, false, false, false, false, false, false] H rfl rfl rfl (fun w H => ?_)
 refine d_pure (i := 0) #[true, false, false, false, false, false, false, false] S rfl (p_move rfl) (wanted_none rfl) rfl rfl (by kernel_rfl) hq104 ?_; clear S a; intro a S
 refine d_pure (i := 1) #[true, true, false, false, false, false, false, false] S rfl (p_move rfl) (wanted_none rfl) rfl rfl (by kernel_rfl) hq104 ?_; clear S a; intro a S
 refine d_pure (i := 2) #[true, true, true, false, false, false, false, false] S rfl (p_nilCheck rfl) (wanted_none rfl) rfl rfl (by kernel_rfl) hq104 ?_; clear S a; intro a S
 refine d_read (i := 3) #[true, true, true, true, false, false, false, false] S H rfl (r_load rfl List.mem_cons_self rfl (fun w hc => ld1 ag34 hc)) (wanted_none rfl) rfl rfl (by kernel_rfl) hq104 ?_; clear S a; intro a S
 have hcon := delim_ wb _ B _ H
 refine d_call (i := 4) #[true, true, true, true, true, false, false, false] S rfl rfl rfl Tryz.func107 rfl rfl hcon (wanted_none rfl) rfl rfl (by kernel_rfl) rfl ?_
 rintro e w ⟨gd7, rfl, hH⟩; refine ⟨_, rfl, hH.tail, ?_⟩; clear hcon H; have H := hH; clear hH; clear S a; intro a S
 refine d_ownB (i := 5) [_, _] (xs := ((([] : List Int) ++ [36]) ++ wq.dec x.length)) (r := [13, 10]) #[true, true, true, true, true, true, false, false] S H rfl rfl rfl rfl hn6 (src_lit (vs := ([13, 10]).map (Value.int .u8)) H List.mem_cons_self Tryz.underlying34 (by simp [Value.oneCell'])) Tryz.underlying34 in5 rfl (by simp only [List.length_append, List.length_cons, List.length_nil, wq.dec_len, ints_len]; have := wq.nDigits_le (u := x.length) (k := 18) (by omega); omega) (by decide) (wanted_none rfl) rfl rfl (by kernel_rfl) rfl ?_; clear S a H; intro An8 cn8 own8 w a hn8 H S
 replace H := H.tail
 replace H : HH B wb _ ((gb, .cells #[.slice An6 ((([] : List Int) ++ [36]) ++ wq.dec x.length).length cn6] 34 (0, 0)) :: (own8 ++ (po' ++ ((g1, .cells #[.slice Ax x.length cx, .bool false] 56 (0, 0)) :: (opt go bp br :: (bs ++ L0)))))) := H
 refine d_pure (i := 6) #[true, true, true, true, true, true, true, false] S rfl (p_nilCheck rfl) (wanted_none rfl) rfl rfl (by kernel_rfl) hq104 ?_; clear S a; intro a S
 refine d_store (i := 7) #[true, true, true, true, true, true, true, true] S H rfl rfl rfl rfl .here (by first | decide | simp [Value.cells]) (fun w u hc hz => st1 sz34 rfl hc hz) (wanted_none rfl) rfl (by kernel_rfl) rfl ?_; clear S a H; intro w a H S
 refine d_done (by kernel_rfl) ?_
 refine e_then ?_
 refine d_start (id := 8) [6, 8] 9 #[false, false, false, false, false, false, false, false, false] H rfl rfl rfl (fun w H => ?_)
 refine d_pure (i := 0) #[true, false, false, false, false, false, false, false, false] S rfl (p_move rfl) (wanted_none rfl) rfl rfl (by kernel_rfl) hq104 ?_; clear S a; intro a S
 refine d_pure (i := 1) #[true, true, false, false, false, false, false, false, false] S rfl (p_move rfl) (wanted_none rfl) rfl rfl (by kernel_rfl) hq104 ?_; clear S a; intro a S
 refine d_pure (i := 2) #[true, true, true, false, false, false, false, false, false] S rfl (p_nilCheck rfl) (wanted_none rfl) rfl rfl (by kernel_rfl) hq104 ?_; clear S a; intro a S
 refine d_read (i := 3) #[true, true, true, true, false, false, false, false, false] S H rfl (r_load rfl List.mem_cons_self rfl (fun w hc => ld1 ag34 hc)) (wanted_none rfl) rfl rfl (by kernel_rfl) hq104 ?_; clear S a; intro a S
 refine d_pure (i := 4) #[true, true, true, true, true, false, false, false, false] S rfl (p_fieldAddr rfl (fun w => fa56_0 w _ _)) (wanted_none rfl) rfl rfl (by kernel_rfl) hq104 ?_; clear S a; intro a S
 refine d_read (i := 5) #[true, true, true, true, true, true, false, false, false] S H rfl (r_load rfl (List.mem_cons_of_mem _ (List.mem_append_right _ (List.mem_append_right _ List.mem_cons_self))) rfl (fun w hc => ld1 ag34 hc)) (wanted_none rfl) rfl rfl (by kernel_rfl) hq104 ?_; clear S a; intro a S
 refine d_ownB (i := 6) [_] (xs := (((([] : List Int) ++ [36]) ++ wq.dec x.length) ++ [13, 10])) (r := x) #[true, true, true, true, true, true, true, false, false] S H rfl rfl rfl rfl hn8 (mw.own_src hox (fun p hp => by have := hsx p hp; simp [this]) H Tryz.underlying34) Tryz.underlying34 in5 rfl (by simp only [List.length_append, List.length_cons, List.length_nil, wq.dec_len, ints_len]; have := wq.nDigits_le (u := x.length) (k := 18) (by omega); omega) (by decide) (wanted_none rfl) rfl rfl (by kernel_rfl) rfl ?_; clear S a H; intro An9 cn9 own9 w a hn9 H S
 replace H : HH B wb _ ((gb, .cells #[.slice An8 (((([] : List Int) ++ [36]) ++ wq.dec x.length) ++ [13, 10]).length cn8] 34 (0, 0)) :: (own9 ++ (po' ++ ((g1, .cells #[.slice Ax x.length cx, .bool false] 56 (0, 0)) :: (opt go bp br :: (bs ++ L0)))))) := H
 refine d_pure (i := 7) #[true, true, true, true, true, true, true, true, false] S rfl (p_nilCheck rfl) (wanted_none rfl) rfl rfl (by kernel_rfl) hq104 ?_; clear S a; intro a S
 refine d_store (i := 8) #[true, true, true, true, true, true, true, true, true] S H rfl rfl rfl rfl .here (by first | decide | simp [Value.cells]) (fun w u hc hz => st1 sz34 rfl hc hz) (wanted_none rfl) rfl (by kernel_rfl) rfl ?_; clear S a H; intro w a H S
 refine d_done (by kernel_rfl) ?_
 refine e_then ?_
 refine wp_seq ?_
 refine d_start (id := 9) [5, 7] 8 #[false, false, false, false, false, false, false, false] H rfl rfl rfl (fun w H => ?_)
 refine d_pure (i := 0) #[true, false, false, false, false, false, false, false] S rfl (p_move rfl) (wanted_none rfl) rfl rfl (by kernel_rfl) hq104 ?_; clear S a; intro a S
 refine d_pure (i := 1) #[true, true, false, false, false, false, false, false] S rfl (p_move rfl) (wanted_none rfl) rfl rfl (by kernel_rfl) hq104 ?_; clear S a; intro a S
 refine d_pure (i := 2) #[true, true, true, false, false, false, false, false] S rfl (p_nilCheck rfl) (wanted_none rfl) rfl rfl (by kernel_rfl) hq104 ?_; clear S a; intro a S
 refine d_read (i := 3) #[true, true, true, true, false, false, false, false] S H rfl (r_load rfl List.mem_cons_self rfl (fun w hc => ld1 ag34 hc)) (wanted_none rfl) rfl rfl (by kernel_rfl) hq104 ?_; clear S a; intro a S
 have hcon := delim_ wb _ B _ H
 refine d_call (i := 4) #[true, true, true, true, true, false, false, false] S rfl rfl rfl Tryz.func107 rfl rfl hcon (wanted_none rfl) rfl rfl (by kernel_rfl) rfl ?_
 rintro e w ⟨gd10, rfl, hH⟩; refine ⟨_, rfl, hH.tail, ?_⟩; clear hcon H; have H := hH; clear hH; clear S a; intro a S
 refine d_ownB (i := 5) [_, _] (xs := ((((([] : List Int) ++ [36]) ++ wq.dec x.length) ++ [13, 10]) ++ x)) (r := [13, 10]) #[true, true, true, true, true, true, false, false] S H rfl rfl rfl rfl hn9 (src_lit (vs := ([13, 10]).map (Value.int .u8)) H List.mem_cons_self Tryz.underlying34 (by simp [Value.oneCell'])) Tryz.underlying34 in5 rfl (by simp only [List.length_append, List.length_cons, List.length_nil, wq.dec_len, ints_len]; have := wq.nDigits_le (u := x.length) (k := 18) (by omega); omega) (by decide) (wanted_none rfl) rfl rfl (by kernel_rfl) rfl ?_; clear S a H; intro An11 cn11 own11 w a hn11 H S
 replace H := H.tail
 replace H : HH B wb _ ((gb, .cells #[.slice An9 ((((([] : List Int) ++ [36]) ++ wq.dec x.length) ++ [13, 10]) ++ x).length cn9] 34 (0, 0)) :: (own11 ++ (po' ++ ((g1, .cells #[.slice Ax x.length cx, .bool false] 56 (0, 0)) :: (opt go bp br :: (bs ++ L0)))))) := H
 refine d_pure (i := 6) #[true, true, true, true, true, true, true, false] S rfl (p_nilCheck rfl) (wanted_none rfl) rfl rfl (by kernel_rfl) hq104 ?_; clear S a; intro a S
 refine d_store (i := 7) #[true, true, true, true, true, true, true, true] S H rfl rfl rfl rfl .here (by first | decide | simp [Value.cells]) (fun w u hc hz => st1 sz34 rfl hc hz) (wanted_none rfl) rfl (by kernel_rfl) rfl ?_; clear S a H; intro w a H S
 refine d_done (by kernel_rfl) ?_
 refine e_then ?_
 refine wp_seq ?_
 refine d_start (id := 10) [6] 12 #[false, false, false, false, false, false, false, false, false, false, false, false] H rfl rfl rfl (fun w H => ?_)
 refine d_pure (i := 0) #[true, false, false, false, false, false, false, false, false, false, false, false] S rfl (p_move rfl) (wanted_none rfl) rfl rfl (by kernel_rfl) hq104 ?_; clear S a; intro a S
 refine d_pure (i := 1) #[true, true, false, false, false, false, false, false, false, false, false, false] S rfl (p_move rfl) (wanted_none rfl) rfl rfl (by kernel_rfl) hq104 ?_; clear S a; intro a S
 refine d_pure (i := 2) #[true, true, true, false, false, false, false, false, false, false, false, false] S rfl (p_nilCheck rfl) (wanted_none rfl) rfl rfl (by kernel_rfl) hq104 ?_; clear S a; intro a S
 refine d_read (i := 3) #[true, true, true, true, false, false, false, false, false, false, false, false] S H rfl (r_load rfl List.mem_cons_self rfl (fun w hc => ld1 ag34 hc)) (wanted_none rfl) rfl rfl (by kernel_rfl) hq104 ?_; clear S a; intro a S
 refine d_pure (i := 4) #[true, true, true, true, true, false, false, false, false, false, false, false] S rfl (p_nilCheckI rfl) (wanted_none rfl) rfl rfl (by kernel_rfl) hq104 ?_; clear S a; intro a S
 refine d_pure (i := 5) #[true, true, true, true, true, true, false, false, false, false, false, false] S rfl (p_move rfl) (wanted_none rfl) rfl rfl (by kernel_rfl) hq104 ?_; clear S a; intro a S
 obtain ⟨gr, cr, fr, rfl, rfl, hlc, hcr, hth, hrow⟩ := rp.own_open hn11 (by simp only [List.length_append, List.length_cons, List.length_nil]; omega)
 replace H : HH B wb _ ((gb, .cells #[.slice (some ⟨gr, 0, none⟩) (((((([] : List Int) ++ [36]) ++ wq.dec x.length) ++ [13, 10]) ++ x) ++ [13, 10]).length cn11] 34 (0, 0)) :: ((gr, .cells cr 5 fr) :: (po' ++ ((g1, .cells #[.slice Ax x.length cx, .bool false] 56 (0, 0)) :: (opt go bp br :: (bs ++ L0)))))) := H
 have H2 := HH.front (L1 := ((gb, .cells #[.slice (some ⟨gr, 0, none⟩) (((((([] : List Int) ++ [36]) ++ wq.dec x.length) ++ [13, 10]) ++ x) ++ [13, 10]).length cn11] 34 (0, 0)) :: ((gr, .cells cr 5 fr) :: (po' ++ ((g1, .cells #[.slice Ax x.length cx, .bool false] 56 (0, 0)) :: [opt go bp br]))))) (S := bs) (L2 := L0) (HH.app H (by simp))
 have hcon := wr.bb.write_ wb _ B (((gb, .cells #[.slice (some ⟨gr, 0, none⟩) (((((([] : List Int) ++ [36]) ++ wq.dec x.length) ++ [13, 10]) ++ x) ++ [13, 10]).length cn11] 34 (0, 0)) :: ((gr, .cells cr 5 fr) :: (po' ++ ((g1, .cells #[.slice Ax x.length cx, .bool false] 56 (0, 0)) :: [opt go bp br])))) ++ L0) b l bs hz gr 0 cn11 cr fr (((((([] : List Int) ++ [36]) ++ wq.dec x.length) ++ [13, 10]) ++ x) ++ [13, 10]) (by simp) hrow (by simp only [List.length_append, List.length_cons, List.length_nil]; omega) H2 (by simp only [List.length_append, List.length_cons, List.length_nil, wq.dec_len, ints_len]; have := wq.nDigits_le (u := x.length) (k := 18) (by omega); omega)
 refine d_invoke_last (i := 6) #[true, true, true, true, true, true, true, false, false, false, false, false] S rfl rfl rfl rfl (meW _ _) Tryz.func157 rfl rfl hcon (wanted_none rfl) rfl rfl (by kernel_rfl) rfl ?_
 rintro e w ⟨rfl, bs2, hz2, hH⟩
 refine ⟨_, rfl, ?_⟩; clear S a; intro a S; clear H H2 hcon
 have H : HH B wb w ((gb, .cells #[.slice (some ⟨gr, 0, none⟩) (((((([] : List Int) ++ [36]) ++ wq.dec x.length) ++ [13, 10]) ++ x) ++ [13, 10]).length cn11] 34 (0, 0)) :: ((gr, .cells cr 5 fr) :: (po' ++ ((g1, .cells #[.slice Ax x.length cx, .bool false] 56 (0, 0)) :: (opt go bp br :: (bs2 ++ L0)))))) := HH.app (HH.front (L1 := bs2) (S := ((gb, .cells #[.slice (some ⟨gr, 0, none⟩) (((((([] : List Int) ++ [36]) ++ wq.dec x.length) ++ [13, 10]) ++ x) ++ [13, 10]).length cn11] 34 (0, 0)) :: ((gr, .cells cr 5 fr) :: (po' ++ ((g1, .cells #[.slice Ax x.length cx, .bool false] 56 (0, 0)) :: [opt go bp br]))))) (L2 := L0) hH) (by simp)
 clear hH
 refine d_pure (i := 7) #[true, true, true, true, true, true, true, true, false, false, false, false] S rfl (p_move rfl) (wanted_none rfl) rfl rfl (by kernel_rfl) hq104 ?_; clear S a; intro a S
 refine d_pure (i := 8) #[true, true, true, true, true, true, true, true, true, false, false, false] S rfl (p_extract rfl rfl) (wanted_none rfl) rfl rfl (by kernel_rfl) hq104 ?_; clear S a; intro a S
 refine d_pure (i := 9) #[true, true, true, true, true, true, true, true, true, true, false, false] S rfl (p_extract rfl rfl) (wanted_none rfl) rfl rfl (by kernel_rfl) hq104 ?_; clear S a; intro a S
 refine d_pure (i := 10) #[true, true, true, true, true, true, true, true, true, true, true, false] S rfl (p_assign rfl) (wanted_none rfl) rfl rfl (by kernel_rfl) hq104 ?_; clear S a; intro a S
 refine d_pure (i := 11) #[true, true, true, true, true, true, true, true, true, true, true, true] S rfl (p_assign rfl) (wanted_none rfl) rfl rfl (by kernel_rfl) hq104 ?_; clear S a; intro a S
 refine d_done (by kernel_rfl) ?_
 refine e_then ?_
 refine wp_seq ?_
 refine c_region ?_
 refine l_mv 2 S rfl ?_; clear S a; intro a S
 refine l_nil ?_
 refine e_then ?_
 refine wp_ret ?_
 refine r_doorA S (wr.pl.put_ wb _ B ((g1, .cells #[.slice Ax x.length cx, .bool false] 56 (0, 0)) :: (opt go bp br :: (bs2 ++ L0))) bp gb cn11 (some ⟨gr, 0, none⟩) (((((([] : List Int) ++ [36]) ++ wq.dec x.length) ++ [13, 10]) ++ x) ++ [13, 10]) po' [(gr, .cells cr 5 fr)] hp' hn11 H) (invokesA (vs := [.pointer (some ⟨bp, 0, none⟩), .pointer (some ⟨gb, 0, none⟩)]) (caps := []) Tryz.func24 rfl rfl) (fun w' _ => res_t1 rfl rfl) ?_
 rintro w' ⟨po2, hp2, hH⟩
 have H3 := HH.front (L1 := po2) (S := ((g1, .cells #[.slice Ax x.length cx, .bool false] 56 (0, 0)) :: [opt go bp br])) (L2 := bs2 ++ L0) (HH.app hH (by simp))
 exact ⟨rfl, _, ⟨br, po2, bs2, hp2, by simpa [mw.bl] using hz2, rfl⟩, HH.app (L := (opt go bp br :: (po2 ++ (bs2 ++ L0)))) (L' := (opt go bp br :: (po2 ++ bs2)) ++ L0) (HH.app (L' := ((g1, .cells #[.slice Ax x.length cx, .bool false] 56 (0, 0)) :: (opt go bp br :: (po2 ++ (bs2 ++ L0))))) H3 (by simp)).tail (by simp)⟩
set_option maxHeartbeats 1000000 in
theorem sst_ (wb w0 : World) (B : Nat) (L0 : dc.Bk) (go bp b : Nat) (l : List Int) (ls : List (Nat × Obj)) (hE : Env go bp b l ls) (ht : Lib.TabBelow Tryz.prog B wb "internal/strconv.uint64pow10" .u64 Lib.pow10Tab) (hT : fz.PTab 3 B wb) (H : HH B wb w0 (ls ++ L0)) (hl : l.length ≤ 10000000) (tx : ByteArray) (htx : tx.size ≤ 10000000) : Calls Tryz.prog 109 #[.agg #[.string tx], .iface 46 (.pointer (some ⟨b, 0, none⟩)), .pointer (some ⟨go, 0, none⟩)] w0 fun e w' => e = .returned .nilIface ∧ ∃ ls', Env go bp b (l ++ (43 :: (ints tx ++ [13, 10]))) ls' ∧ HH B wb w' (ls' ++ L0) := by
 obtain ⟨br, po, bs, hp, hz, rfl⟩ := hE
 replace H : HH B wb w0 (opt go bp br :: (po ++ (bs ++ L0))) := HH.app H (by simp)
 refine c_enter_d (args := [.agg #[.string tx], .iface 46 (.pointer (some ⟨b, 0, none⟩)), .pointer (some ⟨go, 0, none⟩)]) (k := 50) Tryz.func109 rfl rfl rfl (fun a S => ?_)
 refine wp_seq ?_
 refine c_region ?_
 refine l_box (cs := #[.string tx]) S H rfl rfl (fun w => bx) rfl rfl rfl ?_; clear S a H; intro g1 w a H S
 refine l_mv 1 S rfl ?_; clear S a; intro a S
 refine l_nil ?_
 refine e_then ?_
 refine wp_seq ?_
 refine c_region ?_
 refine l_mv 2 S rfl ?_; clear S a; intro a S
 refine l_pure S (p_fieldAddr rfl (fun w => fa102_0 w _ _)) rfl rfl rfl ?_; clear S a; intro a S
 refine l_read S H (r_load rfl (List.mem_cons_of_mem _ List.mem_cons_self) rfl (fun w hc => ld1 ag84 hc)) rfl rfl rfl ?_; clear S a; intro a S
 replace H : HH B wb _ ((g1, .cells #[.string tx] 60 (0, 0)) :: (opt go bp br :: (po ++ (bs ++ L0)))) := H
 replace H : HH B wb _ (po ++ ((g1, .cells #[.string tx] 60 (0, 0)) :: (opt go bp br :: (bs ++ L0)))) := HH.app (HH.front (L1 := ((g1, .cells #[.string tx] 60 (0, 0)) :: [opt go bp br])) (S := po) (L2 := (bs ++ L0)) (HH.app H (by simp))) (by simp)
 have hcon := wr.pl.get_ wb _ B ((g1, .cells #[.string tx] 60 (0, 0)) :: (opt go bp br :: (bs ++ L0))) bp po hp H
 refine l_callv (us := [.pointer (some ⟨bp, 0, none⟩)]) (cs := []) S rfl rfl rfl Tryz.func23 rfl rfl hcon rfl rfl rfl ?_
 rintro e w ⟨po', hp', gb, A0, c0, ow0, rfl, hown0, hH⟩
 refine ⟨_, rfl, ?_⟩; clear S a; intro a S; clear H hcon; have H := hH; clear hH
 refine l_mv 1 S rfl ?_; clear S a; intro a S
 refine l_nil ?_
 refine e_then ?_
 refine wp_seq ?_
 refine c_region ?_
 refine l_mv 2 S rfl ?_; clear S a; intro a S
 refine l_pure S (p_fieldAddr rfl (fun w => fa102_1 w _ _)) rfl rfl rfl ?_; clear S a; intro a S
 refine l_read S H (r_load rfl (List.mem_cons_of_mem _ (List.mem_append_right _ (List.mem_append_right _ (List.mem_cons_of_mem _ List.mem_cons_self)))) rfl (fun w hc => ld1 ag85 hc)) rfl rfl rfl ?_; clear S a; intro a S
 refine l_mv 1 S rfl ?_; clear S a; intro a S
 refine l_defer (xs := [.tmp 19]) (us := [.pointer (some ⟨bp, 0, none⟩)]) (cs := []) (vs := [.pointer (some ⟨gb, 0, none⟩)]) S rfl rfl rfl rfl rfl ?_; clear S a; intro a S
 refine l_nil ?_
 refine e_then ?_
 refine wp_seq ?_
 refine c_region ?_
 refine l_mv 3 S rfl ?_; clear S a; intro a S
 refine l_read S H (r_load rfl List.mem_cons_self rfl (fun w hc => ld1 ag34 hc)) rfl rfl rfl ?_; clear S a; intro a S
 refine l_lit [(.const (.int .u8 43))] S H rfl rfl Tryz.underlying34 sz5 zv5 rfl rfl (by simp [Value.cells]) rfl rfl rfl ?_; clear S a H; intro g2 w a H S
 refine l_ownB [_, _] (l := ([] : List Int)) (r := [43]) S H rfl rfl rfl hown0 (src_lit (vs := ([43]).map (Value.int .u8)) H List.mem_cons_self Tryz.underlying34 (by simp [Value.oneCell'])) Tryz.underlying34 in5 rfl (by simp only [List.length_append, List.length_cons, List.length_nil, wq.dec_len, ints_len]; omega) (by decide) rfl rfl rfl ?_; clear S a H; intro An3 cn3 own3 w a hn3 H S
 replace H := H.tail
 replace H : HH B wb _ ((gb, .cells #[.slice A0 ([] : List Int).length c0] 34 (0, 0)) :: (own3 ++ (po' ++ ((g1, .cells #[.string tx] 60 (0, 0)) :: (opt go bp br :: (bs ++ L0)))))) := H
 refine l_mv 1 S rfl ?_; clear S a; intro a S
 refine l_store S H rfl rfl rfl .here (by first | decide | simp [Value.cells]) (fun w u hc hz => st1 sz34 rfl hc hz) rfl rfl ?_; clear S a H; intro w a H S
 refine l_nil ?_
 refine e_then ?_
 refine wp_seq ?_
 refine d_start (id := 4) [6, 8] 9 #[false, false, false, false, false, false, false, false, false] H rfl rfl rfl (fun w H => ?_)
 refine d_pure (i := 0) #[true, false, false, false, false, false, false, false, false] S rfl (p_move rfl) (wanted_none rfl) rfl rfl (by kernel_rfl) hq109 ?_; clear S a; intro a S
 refine d_pure (i := 1) #[true, true, false, false, false, false, false, false, false] S rfl (p_move rfl) (wanted_none rfl) rfl rfl (by kernel_rfl) hq109 ?_; clear S a; intro a S
 refine d_pure (i := 2) #[true, true, true, false, false, false, false, false, false] S rfl (p_nilCheck rfl) (wanted_none rfl) rfl rfl (by kernel_rfl) hq109 ?_; clear S a; intro a S
 refine d_read (i := 3) #[true, true, true, true, false, false, false, false, false] S H rfl (r_load rfl List.mem_cons_self rfl (fun w hc => ld1 ag34 hc)) (wanted_none rfl) rfl rfl (by kernel_rfl) hq109 ?_; clear S a; intro a S
 refine d_pure (i := 4) #[true, true, true, true, true, false, false, false, false] S rfl (p_fieldAddr rfl (fun w => fa60_0 w _ _)) (wanted_none rfl) rfl rfl (by kernel_rfl) hq109 ?_; clear S a; intro a S
 refine d_read (i := 5) #[true, true, true, true, true, true, false, false, false] S H rfl (r_load rfl (List.mem_cons_of_mem _ (List.mem_append_right _ (List.mem_append_right _ List.mem_cons_self))) rfl (fun w hc => ld1 ag9 hc)) (wanted_none rfl) rfl rfl (by kernel_rfl) hq109 ?_; clear S a; intro a S
 refine d_ownB (i := 6) [_] (xs := (([] : List Int) ++ [43])) (r := (ints tx)) #[true, true, true, true, true, true, true, false, false] S H rfl rfl rfl rfl hn3 (wq.src_str Tryz.underlying9 _) Tryz.underlying34 in5 rfl (by simp only [List.length_append, List.length_cons, List.length_nil, wq.dec_len, ints_len]; omega) (by decide) (wanted_none rfl) rfl rfl (by kernel_rfl) rfl ?_; clear S a H; intro An4 cn4 own4 w a hn4 H S
 replace H : HH B wb _ ((gb, .cells #[.slice An3 (([] : List Int) ++ [43]).length cn3] 34 (0, 0)) :: (own4 ++ (po' ++ ((g1, .cells #[.string tx] 60 (0, 0)) :: (opt go bp br :: (bs ++ L0)))))) := H
 refine d_pure (i := 7) #[true, true, true, true, true, true, true, true, false] S rfl (p_nilCheck rfl) (wanted_none rfl) rfl rfl (by kernel_rfl) hq109 ?_; clear S a; intro a S
 refine d_store (i := 8) #[true, true, true, true, true, true, true, true, true] S H rfl rfl rfl rfl .here (by first | decide | simp [Value.cells]) (fun w u hc hz => st1 sz34 rfl hc hz) (wanted_none rfl) rfl (by kernel_rfl) rfl ?_; clear S a H; intro w a H S
 refine d_done (by kernel_rfl) ?_
 refine e_then ?_
 refine wp_seq ?_
 refine d_start (id := 5) [5, 7] 8 #[false, false, false, false, false, false, false, false] H rfl rfl rfl (fun w H => ?_)
 refine d_pure (i := 0) #[true, false, false, false, false, false, false, false] S rfl (p_move rfl) (wanted_none rfl) rfl rfl (by kernel_rfl) hq109 ?_; clear S a; intro a S
 refine d_pure (i := 1) #[true, true, false, false, false, false, false, false] S rfl (p_move rfl) (wanted_none rfl) rfl rfl (by kernel_rfl) hq109 ?_; clear S a; intro a S
 refine d_pure (i := 2) #[true, true, true, false, false, false, false, false] S rfl (p_nilCheck rfl) (wanted_none rfl) rfl rfl (by kernel_rfl) hq109 ?_; clear S a; intro a S
 refine d_read (i := 3) #[true, true, true, true, false, false, false, false] S H rfl (r_load rfl List.mem_cons_self rfl (fun w hc => ld1 ag34 hc)) (wanted_none rfl) rfl rfl (by kernel_rfl) hq109 ?_; clear S a; intro a S
 have hcon := delim_ wb _ B _ H
 refine d_call (i := 4) #[true, true, true, true, true, false, false, false] S rfl rfl rfl Tryz.func107 rfl rfl hcon (wanted_none rfl) rfl rfl (by kernel_rfl) rfl ?_
 rintro e w ⟨gd5, rfl, hH⟩; refine ⟨_, rfl, hH.tail, ?_⟩; clear hcon H; have H := hH; clear hH; clear S a; intro a S
 refine d_ownB (i := 5) [_, _] (xs := ((([] : List Int) ++ [43]) ++ (ints tx))) (r := [13, 10]) #[true, true, true, true, true, true, false, false] S H rfl rfl rfl rfl hn4 (src_lit (vs := ([13, 10]).map (Value.int .u8)) H List.mem_cons_self Tryz.underlying34 (by simp [Value.oneCell'])) Tryz.underlying34 in5 rfl (by simp only [List.length_append, List.length_cons, List.length_nil, wq.dec_len, ints_len]; omega) (by decide) (wanted_none rfl) rfl rfl (by kernel_rfl) rfl ?_; clear S a H; intro An6 cn6 own6 w a hn6 H S
 replace H := H.tail
 replace H : HH B wb _ ((gb, .cells #[.slice An4 ((([] : List Int) ++ [43]) ++ (ints tx)).length cn4] 34 (0, 0)) :: (own6 ++ (po' ++ ((g1, .cells #[.string tx] 60 (0, 0)) :: (opt go bp br :: (bs ++ L0)))))) := H
 refine d_pure (i := 6) #[true, true, true, true, true, true, true, false] S rfl (p_nilCheck rfl) (wanted_none rfl) rfl rfl (by kernel_rfl) hq109 ?_; clear S a; intro a S
 refine d_store (i := 7) #[true, true, true, true, true, true, true, true] S H rfl rfl rfl rfl .here (by first | decide | simp [Value.cells]) (fun w u hc hz => st1 sz34 rfl hc hz) (wanted_none rfl) rfl (by kernel_rfl) rfl ?_; clear S a H; intro w a H S
 refine d_done (by kernel_rfl) ?_
 refine e_then ?_
 refine wp_seq ?_
 refine d_start (id := 6) [6] 12 #[false, false, false, false, false, false, false, false, false, false, false, false] H rfl rfl rfl (fun w H => ?_)
 refine d_pure (i := 0) #[true, false, false, false, false, false, false, false, false, false, false, false] S rfl (p_move rfl) (wanted_none rfl) rfl rfl (by kernel_rfl) hq109 ?_; clear S a; intro a S
 refine d_pure (i := 1) #[true, true, false, false, false, false, false, false, false, false, false, false] S rfl (p_move rfl) (wanted_none rfl) rfl rfl (by kernel_rfl) hq109 ?_; clear S a; intro a S
 refine d_pure (i := 2) #[true, true, true, false, false, false, false, false, false, false, false, false] S rfl (p_nilCheck rfl) (wanted_none rfl) rfl rfl (by kernel_rfl) hq109 ?_; clear S a; intro a S
 refine d_read (i := 3) #[true, true, true, true, false, false, false, false, false, false, false, false] S H rfl (r_load rfl List.mem_cons_self rfl (fun w hc => ld1 ag34 hc)) (wanted_none rfl) rfl rfl (by kernel_rfl) hq109 ?_; clear S a; intro a S
 refine d_pure (i := 4) #[true, true, true, true, true, false, false, false, false, false, false, false] S rfl (p_nilCheckI rfl) (wanted_none rfl) rfl rfl (by kernel_rfl) hq109 ?_; clear S a; intro a S
 refine d_pure (i := 5) #[true, true, true, true, true, true, false, false, false, false, false, false] S rfl (p_move rfl) (wanted_none rfl) rfl rfl (by kernel_rfl) hq109 ?_; clear S a; intro a S
 obtain ⟨gr, cr, fr, rfl, rfl, hlc, hcr, hth, hrow⟩ := rp.own_open hn6 (by simp only [List.length_append, List.length_cons, List.length_nil]; omega)
 replace H : HH B wb _ ((gb, .cells #[.slice (some ⟨gr, 0, none⟩) (((([] : List Int) ++ [43]) ++ (ints tx)) ++ [13, 10]).length cn6] 34 (0, 0)) :: ((gr, .cells cr 5 fr) :: (po' ++ ((g1, .cells #[.string tx] 60 (0, 0)) :: (opt go bp br :: (bs ++ L0)))))) := H
 have H2 := HH.front (L1 := ((gb, .cells #[.slice (some ⟨gr, 0, none⟩) (((([] : List Int) ++ [43]) ++ (ints tx)) ++ [13, 10]).length cn6] 34 (0, 0)) :: ((gr, .cells cr 5 fr) :: (po' ++ ((g1, .cells #[.string tx] 60 (0, 0)) :: [opt go bp br]))))) (S := bs) (L2 := L0) (HH.app H (by simp))
 have hcon := wr.bb.write_ wb _ B (((gb, .cells #[.slice (some ⟨gr, 0, none⟩) (((([] : List Int) ++ [43]) ++ (ints tx)) ++ [13, 10]).length cn6] 34 (0, 0)) :: ((gr, .cells cr 5 fr) :: (po' ++ ((g1, .cells #[.string tx] 60 (0, 0)) :: [opt go bp br])))) ++ L0) b l bs hz gr 0 cn6 cr fr (((([] : List Int) ++ [43]) ++ (ints tx)) ++ [13, 10]) (by simp) hrow (by simp only [List.length_append, List.length_cons, List.length_nil]; omega) H2 (by simp only [List.length_append, List.length_cons, List.length_nil, wq.dec_len, ints_len]; omega)
 refine d_invoke_last (i := 6) #[true, true, true, true, true, true, true, false, false, false, false, false] S rfl rfl rfl rfl (meW _ _) Tryz.func157 rfl rfl hcon (wanted_none rfl) rfl rfl (by kernel_rfl) rfl ?_
 rintro e w ⟨rfl, bs2, hz2, hH⟩
 refine ⟨_, rfl, ?_⟩; clear S a; intro a S; clear H H2 hcon
 have H : HH B wb w ((gb, .cells #[.slice (some ⟨gr, 0, none⟩) (((([] : List Int) ++ [43]) ++ (ints tx)) ++ [13, 10]).length cn6] 34 (0, 0)) :: ((gr, .cells cr 5 fr) :: (po' ++ ((g1, .cells #[.string tx] 60 (0, 0)) :: (opt go bp br :: (bs2 ++ L0)))))) := HH.app (HH.front (L1 := bs2) (S := ((gb, .cells #[.slice (some ⟨gr, 0, none⟩) (((([] : List Int) ++ [43]) ++ (ints tx)) ++ [13, 10]).length cn6] 34 (0, 0)) :: ((gr, .cells cr 5 fr) :: (po' ++ ((g1, .cells #[.string tx] 60 (0, 0)) :: [opt go bp br]))))) (L2 := L0) hH) (by simp)
 clear hH
 refine d_pure (i := 7) #[true, true, true, true, true, true, true, true, false, false, false, false] S rfl (p_move rfl) (wanted_none rfl) rfl rfl (by kernel_rfl) hq109 ?_; clear S a; intro a S
 refine d_pure (i := 8) #[true, true, true, true, true, true, true, true, true, false, false, false] S rfl (p_extract rfl rfl) (wanted_none rfl) rfl rfl (by kernel_rfl) hq109 ?_; clear S a; intro a S
 refine d_pure (i := 9) #[true, true, true, true, true, true, true, true, true, true, false, false] S rfl (p_extract rfl rfl) (wanted_none rfl) rfl rfl (by kernel_rfl) hq109 ?_; clear S a; intro a S
 refine d_pure (i := 10) #[true, true, true, true, true, true, true, true, true, true, true, false] S rfl (p_assign rfl) (wanted_none rfl) rfl rfl (by kernel_rfl) hq109 ?_; clear S a; intro a S
 refine d_pure (i := 11) #[true, true, true, true, true, true, true, true, true, true, true, true] S rfl (p_assign rfl) (wanted_none rfl) rfl rfl (by kernel_rfl) hq109 ?_; clear S a; intro a S
 refine d_done (by kernel_rfl) ?_
 refine e_then ?_
 refine wp_seq ?_
 refine c_region ?_
 refine l_mv 2 S rfl ?_; clear S a; intro a S
 refine l_nil ?_
 refine e_then ?_
 refine wp_ret ?_
 refine r_doorA S (wr.pl.put_ wb _ B ((g1, .cells #[.string tx] 60 (0, 0)) :: (opt go bp br :: (bs2 ++ L0))) bp gb cn6 (some ⟨gr, 0, none⟩) (((([] : List Int) ++ [43]) ++ (ints tx)) ++ [13, 10]) po' [(gr, .cells cr 5 fr)] hp' hn6 H) (invokesA (vs := [.pointer (some ⟨bp, 0, none⟩), .pointer (some ⟨gb, 0, none⟩)]) (caps := []) Tryz.func24 rfl rfl) (fun w' _ => res_t1 rfl rfl) ?_
 rintro w' ⟨po2, hp2, hH⟩
 have H3 := HH.front (L1 := po2) (S := ((g1, .cells #[.string tx] 60 (0, 0)) :: [opt go bp br])) (L2 := bs2 ++ L0) (HH.app hH (by simp))
 exact ⟨rfl, _, ⟨br, po2, bs2, hp2, by simpa [mw.bl] using hz2, rfl⟩, HH.app (L := (opt go bp br :: (po2 ++ (bs2 ++ L0)))) (L' := (opt go bp br :: (po2 ++ bs2)) ++ L0) (HH.app (L' := ((g1, .cells #[.string tx] 60 (0, 0)) :: (opt go bp br :: (po2 ++ (bs2 ++ L0))))) H3 (by simp)).tail (by simp)⟩
set_option maxHeartbeats 1000000 in
theorem sse_ (wb w0 : World) (B : Nat) (L0 : dc.Bk) (go bp b : Nat) (l : List Int) (ls : List (Nat × Obj)) (hE : Env go bp b l ls) (ht : Lib.TabBelow Tryz.prog B wb "internal/strconv.uint64pow10" .u64 Lib.pow10Tab) (hT : fz.PTab 3 B wb) (H : HH B wb w0 (ls ++ L0)) (hl : l.length ≤ 10000000) (tx : ByteArray) (htx : tx.size ≤ 10000000) : Calls Tryz.prog 111 #[.agg #[.string tx], .iface 46 (.pointer (some ⟨b, 0, none⟩)), .pointer (some ⟨go, 0, none⟩)] w0 fun e w' => e = .returned .nilIface ∧ ∃ ls', Env go bp b (l ++ (45 :: (ints tx ++ [13, 10]))) ls' ∧ HH B wb w' (ls' ++ L0) := by
 obtain ⟨br, po, bs, hp, hz, rfl⟩ := hE
 replace H : HH B wb w0 (opt go bp br :: (po ++ (bs ++ L0))) := HH.app H (by simp)
 refine c_enter_d (args := [.agg #[.string tx], .iface 46 (.pointer (some ⟨b, 0, none⟩)), .pointer (some ⟨go, 0, none⟩)]) (k := 50) Tryz.func111 rfl rfl rfl (fun a S => ?_)
 refine wp_seq ?_
 refine c_region ?_
 refine l_box (cs := #[.string tx]) S H rfl rfl (fun w => bx) rfl rfl rfl ?_; clear S a H; intro g1 w a H S
 refine l_mv 1 S rfl ?_; clear S a; intro a S
 refine l_nil ?_
 refine e_then ?_
 refine wp_seq ?_
 refine c_region ?_
 refine l_mv 2 S rfl ?_; clear S a; intro a S
 refine l_pure S (p_fieldAddr rfl (fun w => fa102_0 w _ _)) rfl rfl rfl ?_; clear S a; intro a S
 refine l_read S H (r_load rfl (List.mem_cons_of_mem _ List.mem_cons_self) rfl (fun w hc => ld1 ag84 hc)) rfl rfl rfl ?_; clear S a; intro a S
 replace H : HH B wb _ ((g1, .cells #[.string tx] 61 (0, 0)) :: (opt go bp br :: (po ++ (bs ++ L0)))) := H
 replace H : HH B wb _ (po ++ ((g1, .cells #[.string tx] 61 (0, 0)) :: (opt go bp br :: (bs ++ L0)))) := HH.app (HH.front (L1 := ((g1, .cells #[.string tx] 61 (0, 0)) :: [opt go bp br])) (S := po) (L2 := (bs ++ L0)) (HH.app H (by simp))) (by simp)
 have hcon := wr.pl.get_ wb _ B ((g1, .cells #[.string tx] 61 (0, 0)) :: (opt go bp br :: (bs ++ L0))) bp po hp H
 refine l_callv (us := [.pointer (some ⟨bp, 0, none⟩)]) (cs := []) S rfl rfl rfl Tryz.func23 rfl rfl hcon rfl rfl rfl ?_
 rintro e w ⟨po', hp', gb, A0, c0, ow0, rfl, hown0, hH⟩
 refine ⟨_, rfl, ?_⟩; clear S a; intro a S; clear H hcon; have H := hH; clear hH
 refine l_mv 1 S rfl ?_; clear S a; intro a S
 refine l_nil ?_
 refine e_then ?_
 refine wp_seq ?_
 refine c_region ?_
 refine l_mv 2 S rfl ?_; clear S a; intro a S
 refine l_pure S (p_fieldAddr rfl (fun w => fa102_1 w _ _)) rfl rfl rfl ?_; clear S a; intro a S
 refine l_read S H (r_load rfl (List.mem_cons_of_mem _ (List.mem_append_right _ (List.mem_append_right _ (List.mem_cons_of_mem _ List.mem_cons_self)))) rfl (fun w hc => ld1 ag85 hc)) rfl rfl rfl ?_; clear S a; intro a S
 refine l_mv 1 S rfl ?_; clear S a; intro a S
 refine l_defer (xs := [.tmp 19]) (us := [.pointer (some ⟨bp, 0, none⟩)]) (cs := []) (vs := [.pointer (some ⟨gb, 0, none⟩)]) S rfl rfl rfl rfl rfl ?_; clear S a; intro a S
 refine l_nil ?_
 refine e_then ?_
 refine wp_seq ?_
 refine c_region ?_
 refine l_mv 3 S rfl ?_; clear S a; intro a S
 refine l_read S H (r_load rfl List.mem_cons_self rfl (fun w hc => ld1 ag34 hc)) rfl rfl rfl ?_; clear S a; intro a S
 refine l_lit [(.const (.int .u8 45))] S H rfl rfl Tryz.underlying34 sz5 zv5 rfl rfl (by simp [Value.cells]) rfl rfl rfl ?_; clear S a H; intro g2 w a H S
 refine l_ownB [_, _] (l := ([] : List Int)) (r := [45]) S H rfl rfl rfl hown0 (src_lit (vs := ([45]).map (Value.int .u8)) H List.mem_cons_self Tryz.underlying34 (by simp [Value.oneCell'])) Tryz.underlying34 in5 rfl (by simp only [List.length_append, List.length_cons, List.length_nil, wq.dec_len, ints_len]; omega) (by decide) rfl rfl rfl ?_; clear S a H; intro An3 cn3 own3 w a hn3 H S
 replace H := H.tail
 replace H : HH B wb _ ((gb, .cells #[.slice A0 ([] : List Int).length c0] 34 (0, 0)) :: (own3 ++ (po' ++ ((g1, .cells #[.string tx] 61 (0, 0)) :: (opt go bp br :: (bs ++ L0)))))) := H
 refine l_mv 1 S rfl ?_; clear S a; intro a S
 refine l_store S H rfl rfl rfl .here (by first | decide | simp [Value.cells]) (fun w u hc hz => st1 sz34 rfl hc hz) rfl rfl ?_; clear S a H; intro w a H S
 refine l_nil ?_
 refine e_then ?_
 refine wp_seq ?_
 refine d_start (id := 4) [6, 8] 9 #[false, false, false, false, false, false, false, false, false] H rfl rfl rfl (fun w H => ?_)
 refine d_pure (i := 0) #[true, false, false, false, false, false, false, false, false] S rfl (p_move rfl) (wanted_none rfl) rfl rfl (by kernel_rfl) hq111 ?_; clear S a; intro a S
 refine d_pure (i := 1) #[true, true, false, false, false, false, false, false, false] S rfl (p_move rfl) (wanted_none rfl) rfl rfl (by kernel_rfl) hq111 ?_; clear S a; intro a S
 refine d_pure (i := 2) #[true, true, true, false, false, false, false, false, false] S rfl (p_nilCheck rfl) (wanted_none rfl) rfl rfl (by kernel_rfl) hq111 ?_; clear S a; intro a S
 refine d_read (i := 3) #[true, true, true, true, false, false, false, false, false] S H rfl (r_load rfl List.mem_cons_self rfl (fun w hc => ld1 ag34 hc)) (wanted_none rfl) rfl rfl (by kernel_rfl) hq111 ?_; clear S a; intro a S
 refine d_pure (i := 4) #[true, true, true, true, true, false, false, false, false] S rfl (p_fieldAddr rfl (fun w => fa61_0 w _ _)) (wanted_none rfl) rfl rfl (by kernel_rfl) hq111 ?_; clear S a; intro a S
 refine d_read (i := 5) #[true, true, true, true, true, true, false, false, false] S H rfl (r_load rfl (List.mem_cons_of_mem _ (List.mem_append_right _ (List.mem_append_right _ List.mem_cons_self))) rfl (fun w hc => ld1 ag9 hc)) (wanted_none rfl) rfl rfl (by kernel_rfl) hq111 ?_; clear S a; intro a S
 refine d_ownB (i := 6) [_] (xs := (([] : List Int) ++ [45])) (r := (ints tx)) #[true, true, true, true, true, true, true, false, false] S H rfl rfl rfl rfl hn3 (wq.src_str Tryz.underlying9 _) Tryz.underlying34 in5 rfl (by simp only [List.length_append, List.length_cons, List.length_nil, wq.dec_len, ints_len]; omega) (by decide) (wanted_none rfl) rfl rfl (by kernel_rfl) rfl ?_; clear S a H; intro An4 cn4 own4 w a hn4 H S
 replace H : HH B wb _ ((gb, .cells #[.slice An3 (([] : List Int) ++ [45]).length cn3] 34 (0, 0)) :: (own4 ++ (po' ++ ((g1, .cells #[.string tx] 61 (0, 0)) :: (opt go bp br :: (bs ++ L0)))))) := H
 refine d_pure (i := 7) #[true, true, true, true, true, true, true, true, false] S rfl (p_nilCheck rfl) (wanted_none rfl) rfl rfl (by kernel_rfl) hq111 ?_; clear S a; intro a S
 refine d_store (i := 8) #[true, true, true, true, true, true, true, true, true] S H rfl rfl rfl rfl .here (by first | decide | simp [Value.cells]) (fun w u hc hz => st1 sz34 rfl hc hz) (wanted_none rfl) rfl (by kernel_rfl) rfl ?_; clear S a H; intro w a H S
 refine d_done (by kernel_rfl) ?_
 refine e_then ?_
 refine wp_seq ?_
 refine d_start (id := 5) [5, 7] 8 #[false, false, false, false, false, false, false, false] H rfl rfl rfl (fun w H => ?_)
 refine d_pure (i := 0) #[true, false, false, false, false, false, false, false] S rfl (p_move rfl) (wanted_none rfl) rfl rfl (by kernel_rfl) hq111 ?_; clear S a; intro a S
 refine d_pure (i := 1) #[true, true, false, false, false, false, false, false] S rfl (p_move rfl) (wanted_none rfl) rfl rfl (by kernel_rfl) hq111 ?_; clear S a; intro a S
 refine d_pure (i := 2) #[true, true, true, false, false, false, false, false] S rfl (p_nilCheck rfl) (wanted_none rfl) rfl rfl (by kernel_rfl) hq111 ?_; clear S a; intro a S
 refine d_read (i := 3) #[true, true, true, true, false, false, false, false] S H rfl (r_load rfl List.mem_cons_self rfl (fun w hc => ld1 ag34 hc)) (wanted_none rfl) rfl rfl (by kernel_rfl) hq111 ?_; clear S a; intro a S
 have hcon := delim_ wb _ B _ H
 refine d_call (i := 4) #[true, true, true, true, true, false, false, false] S rfl rfl rfl Tryz.func107 rfl rfl hcon (wanted_none rfl) rfl rfl (by kernel_rfl) rfl ?_
 rintro e w ⟨gd5, rfl, hH⟩; refine ⟨_, rfl, hH.tail, ?_⟩; clear hcon H; have H := hH; clear hH; clear S a; intro a S
 refine d_ownB (i := 5) [_, _] (xs := ((([] : List Int) ++ [45]) ++ (ints tx))) (r := [13, 10]) #[true, true, true, true, true, true, false, false] S H rfl rfl rfl rfl hn4 (src_lit (vs := ([13, 10]).map (Value.int .u8)) H List.mem_cons_self Tryz.underlying34 (by simp [Value.oneCell'])) Tryz.underlying34 in5 rfl (by simp only [List.length_append, List.length_cons, List.length_nil, wq.dec_len, ints_len]; omega) (by decide) (wanted_none rfl) rfl rfl (by kernel_rfl) rfl ?_; clear S a H; intro An6 cn6 own6 w a hn6 H S
 replace H := H.tail
 replace H : HH B wb _ ((gb, .cells #[.slice An4 ((([] : List Int) ++ [45]) ++ (ints tx)).length cn4] 34 (0, 0)) :: (own6 ++ (po' ++ ((g1, .cells #[.string tx] 61 (0, 0)) :: (opt go bp br :: (bs ++ L0)))))) := H
 refine d_pure (i := 6) #[true, true, true, true, true, true, true, false] S rfl (p_nilCheck rfl) (wanted_none rfl) rfl rfl (by kernel_rfl) hq111 ?_; clear S a; intro a S
 refine d_store (i := 7) #[true, true, true, true, true, true, true, true] S H rfl rfl rfl rfl .here (by first | decide | simp [Value.cells]) (fun w u hc hz => st1 sz34 rfl hc hz) (wanted_none rfl) rfl (by kernel_rfl) rfl ?_; clear S a H; intro w a H S
 refine d_done (by kernel_rfl) ?_
 refine e_then ?_
 refine wp_seq ?_
 refine d_start (id := 6) [6] 12 #[false, false, false, false, false, false, false, false, false, false, false, false] H rfl rfl rfl (fun w H => ?_)
 refine d_pure (i := 0) #[true, false, false, false, false, false, false, false, false, false, false, false] S rfl (p_move rfl) (wanted_none rfl) rfl rfl (by kernel_rfl) hq111 ?_; clear S a; intro a S
 refine d_pure (i := 1) #[true, true, false, false, false, false, false, false, false, false, false, false] S rfl (p_move rfl) (wanted_none rfl) rfl rfl (by kernel_rfl) hq111 ?_; clear S a; intro a S
 refine d_pure (i := 2) #[true, true, true, false, false, false, false, false, false, false, false, false] S rfl (p_nilCheck rfl) (wanted_none rfl) rfl rfl (by kernel_rfl) hq111 ?_; clear S a; intro a S
 refine d_read (i := 3) #[true, true, true, true, false, false, false, false, false, false, false, false] S H rfl (r_load rfl List.mem_cons_self rfl (fun w hc => ld1 ag34 hc)) (wanted_none rfl) rfl rfl (by kernel_rfl) hq111 ?_; clear S a; intro a S
 refine d_pure (i := 4) #[true, true, true, true, true, false, false, false, false, false, false, false] S rfl (p_nilCheckI rfl) (wanted_none rfl) rfl rfl (by kernel_rfl) hq111 ?_; clear S a; intro a S
 refine d_pure (i := 5) #[true, true, true, true, true, true, false, false, false, false, false, false] S rfl (p_move rfl) (wanted_none rfl) rfl rfl (by kernel_rfl) hq111 ?_; clear S a; intro a S
 obtain ⟨gr, cr, fr, rfl, rfl, hlc, hcr, hth, hrow⟩ := rp.own_open hn6 (by simp only [List.length_append, List.length_cons, List.length_nil]; omega)
 replace H : HH B wb _ ((gb, .cells #[.slice (some ⟨gr, 0, none⟩) (((([] : List Int) ++ [45]) ++ (ints tx)) ++ [13, 10]).length cn6] 34 (0, 0)) :: ((gr, .cells cr 5 fr) :: (po' ++ ((g1, .cells #[.string tx] 61 (0, 0)) :: (opt go bp br :: (bs ++ L0)))))) := H
 have H2 := HH.front (L1 := ((gb, .cells #[.slice (some ⟨gr, 0, none⟩) (((([] : List Int) ++ [45]) ++ (ints tx)) ++ [13, 10]).length cn6] 34 (0, 0)) :: ((gr, .cells cr 5 fr) :: (po' ++ ((g1, .cells #[.string tx] 61 (0, 0)) :: [opt go bp br]))))) (S := bs) (L2 := L0) (HH.app H (by simp))
 have hcon := wr.bb.write_ wb _ B (((gb, .cells #[.slice (some ⟨gr, 0, none⟩) (((([] : List Int) ++ [45]) ++ (ints tx)) ++ [13, 10]).length cn6] 34 (0, 0)) :: ((gr, .cells cr 5 fr) :: (po' ++ ((g1, .cells #[.string tx] 61 (0, 0)) :: [opt go bp br])))) ++ L0) b l bs hz gr 0 cn6 cr fr (((([] : List Int) ++ [45]) ++ (ints tx)) ++ [13, 10]) (by simp) hrow (by simp only [List.length_append, List.length_cons, List.length_nil]; omega) H2 (by simp only [List.length_append, List.length_cons, List.length_nil, wq.dec_len, ints_len]; omega)
 refine d_invoke_last (i := 6) #[true, true, true, true, true, true, true, false, false, false, false, false] S rfl rfl rfl rfl (meW _ _) Tryz.func157 rfl rfl hcon (wanted_none rfl) rfl rfl (by kernel_rfl) rfl ?_
 rintro e w ⟨rfl, bs2, hz2, hH⟩
 refine ⟨_, rfl, ?_⟩; clear S a; intro a S; clear H H2 hcon
 have H : HH B wb w ((gb, .cells #[.slice (some ⟨gr, 0, none⟩) (((([] : List Int) ++ [45]) ++ (ints tx)) ++ [13, 10]).length cn6] 34 (0, 0)) :: ((gr, .cells cr 5 fr) :: (po' ++ ((g1, .cells #[.string tx] 61 (0, 0)) :: (opt go bp br :: (bs2 ++ L0)))))) := HH.app (HH.front (L1 := bs2) (S := ((gb, .cells #[.slice (some ⟨gr, 0, none⟩) (((([] : List Int) ++ [45]) ++ (ints tx)) ++ [13, 10]).length cn6] 34 (0, 0)) :: ((gr, .cells cr 5 fr) :: (po' ++ ((g1, .cells #[.string tx] 61 (0, 0)) :: [opt go bp br]))))) (L2 := L0) hH) (by simp)
 clear hH
 refine d_pure (i := 7) #[true, true, true, true, true, true, true, true, false, false, false, false] S rfl (p_move rfl) (wanted_none rfl) rfl rfl (by kernel_rfl) hq111 ?_; clear S a; intro a S
 refine d_pure (i := 8) #[true, true, true, true, true, true, true, true, true, false, false, false] S rfl (p_extract rfl rfl) (wanted_none rfl) rfl rfl (by kernel_rfl) hq111 ?_; clear S a; intro a S
 refine d_pure (i := 9) #[true, true, true, true, true, true, true, true, true, true, false, false] S rfl (p_extract rfl rfl) (wanted_none rfl) rfl rfl (by kernel_rfl) hq111 ?_; clear S a; intro a S
 refine d_pure (i := 10) #[true, true, true, true, true, true, true, true, true, true, true, false] S rfl (p_assign rfl) (wanted_none rfl) rfl rfl (by kernel_rfl) hq111 ?_; clear S a; intro a S
 refine d_pure (i := 11) #[true, true, true, true, true, true, true, true, true, true, true, true] S rfl (p_assign rfl) (wanted_none rfl) rfl rfl (by kernel_rfl) hq111 ?_; clear S a; intro a S
 refine d_done (by kernel_rfl) ?_
 refine e_then ?_
 refine wp_seq ?_
 refine c_region ?_
 refine l_mv 2 S rfl ?_; clear S a; intro a S
 refine l_nil ?_
 refine e_then ?_
 refine wp_ret ?_
 refine r_doorA S (wr.pl.put_ wb _ B ((g1, .cells #[.string tx] 61 (0, 0)) :: (opt go bp br :: (bs2 ++ L0))) bp gb cn6 (some ⟨gr, 0, none⟩) (((([] : List Int) ++ [45]) ++ (ints tx)) ++ [13, 10]) po' [(gr, .cells cr 5 fr)] hp' hn6 H) (invokesA (vs := [.pointer (some ⟨bp, 0, none⟩), .pointer (some ⟨gb, 0, none⟩)]) (caps := []) Tryz.func24 rfl rfl) (fun w' _ => res_t1 rfl rfl) ?_
 rintro w' ⟨po2, hp2, hH⟩
 have H3 := HH.front (L1 := po2) (S := ((g1, .cells #[.string tx] 61 (0, 0)) :: [opt go bp br])) (L2 := bs2 ++ L0) (HH.app hH (by simp))
 exact ⟨rfl, _, ⟨br, po2, bs2, hp2, by simpa [mw.bl] using hz2, rfl⟩, HH.app (L := (opt go bp br :: (po2 ++ (bs2 ++ L0)))) (L' := (opt go bp br :: (po2 ++ bs2)) ++ L0) (HH.app (L' := ((g1, .cells #[.string tx] 61 (0, 0)) :: (opt go bp br :: (po2 ++ (bs2 ++ L0))))) H3 (by simp)).tail (by simp)⟩
set_option maxHeartbeats 1000000 in
theorem num_ (wb w0 : World) (B : Nat) (L0 : dc.Bk) (go bp b : Nat) (l : List Int) (ls : List (Nat × Obj)) (hE : Env go bp b l ls) (ht : Lib.TabBelow Tryz.prog B wb "internal/strconv.uint64pow10" .u64 Lib.pow10Tab) (hT : fz.PTab 3 B wb) (H : HH B wb w0 (ls ++ L0)) (hl : l.length ≤ 10000000) (n : Int) (hn : (-9223372036854775808 ≤ n ∧ n ≤ 9223372036854775807)) : Calls Tryz.prog 112 #[.agg #[.int .i64 n], .iface 46 (.pointer (some ⟨b, 0, none⟩)), .pointer (some ⟨go, 0, none⟩)] w0 fun e w' => e = .returned .nilIface ∧ ∃ ls', Env go bp b (l ++ (58 :: (mw.sdec n ++ [13, 10]))) ls' ∧ HH B wb w' (ls' ++ L0) := by
 obtain ⟨br, po, bs, hp, hz, rfl⟩ := hE
 replace H : HH B wb w0 (opt go bp br :: (po ++ (bs ++ L0))) := HH.app H (by simp)
 refine c_enter_d (args := [.agg #[.int .i64 n], .iface 46 (.pointer (some ⟨b, 0, none⟩)), .pointer (some ⟨go, 0, none⟩)]) (k := 50) Tryz.func112 rfl rfl rfl (fun a S => ?_)
 refine wp_seq ?_
 refine c_region ?_
 refine l_box (cs := #[.int .i64 n]) S H rfl rfl (fun w => bx) rfl rfl rfl ?_; clear S a H; intro g1 w a H S
 refine l_mv 1 S rfl ?_; clear S a; intro a S
 refine l_nil ?_
 refine e_then ?_
 refine wp_seq ?_
 refine c_region ?_
 refine l_mv 2 S rfl ?_; clear S a; intro a S
 refine l_pure S (p_fieldAddr rfl (fun w => fa102_0 w _ _)) rfl rfl rfl ?_; clear S a; intro a S
 refine l_read S H (r_load rfl (List.mem_cons_of_mem _ List.mem_cons_self) rfl (fun w hc => ld1 ag84 hc)) rfl rfl rfl ?_; clear S a; intro a S
 replace H : HH B wb _ ((g1, .cells #[.int .i64 n] 63 (0, 0)) :: (opt go bp br :: (po ++ (bs ++ L0)))) := H
 replace H : HH B wb _ (po ++ ((g1, .cells #[.int .i64 n] 63 (0, 0)) :: (opt go bp br :: (bs ++ L0)))) := HH.app (HH.front (L1 := ((g1, .cells #[.int .i64 n] 63 (0, 0)) :: [opt go bp br])) (S := po) (L2 := (bs ++ L0)) (HH.app H (by simp))) (by simp)
 have hcon := wr.pl.get_ wb _ B ((g1, .cells #[.int .i64 n] 63 (0, 0)) :: (opt go bp br :: (bs ++ L0))) bp po hp H
 refine l_callv (us := [.pointer (some ⟨bp, 0, none⟩)]) (cs := []) S rfl rfl rfl Tryz.func23 rfl rfl hcon rfl rfl rfl ?_
 rintro e w ⟨po', hp', gb, A0, c0, ow0, rfl, hown0, hH⟩
 refine ⟨_, rfl, ?_⟩; clear S a; intro a S; clear H hcon; have H := hH; clear hH
 refine l_mv 1 S rfl ?_; clear S a; intro a S
 refine l_nil ?_
 refine e_then ?_
 refine wp_seq ?_
 refine c_region ?_
 refine l_mv 2 S rfl ?_; clear S a; intro a S
 refine l_pure S (p_fieldAddr rfl (fun w => fa102_1 w _ _)) rfl rfl rfl ?_; clear S a; intro a S
 refine l_read S H (r_load rfl (List.mem_cons_of_mem _ (List.mem_append_right _ (List.mem_append_right _ (List.mem_cons_of_mem _ List.mem_cons_self)))) rfl (fun w hc => ld1 ag85 hc)) rfl rfl rfl ?_; clear S a; intro a S
 refine l_mv 1 S rfl ?_; clear S a; intro a S
 refine l_defer (xs := [.tmp 19]) (us := [.pointer (some ⟨bp, 0, none⟩)]) (cs := []) (vs := [.pointer (some ⟨gb, 0, none⟩)]) S rfl rfl rfl rfl rfl ?_; clear S a; intro a S
 refine l_nil ?_
 refine e_then ?_
 refine wp_seq ?_
 refine c_region ?_
 refine l_mv 3 S rfl ?_; clear S a; intro a S
 refine l_read S H (r_load rfl List.mem_cons_self rfl (fun w hc => ld1 ag34 hc)) rfl rfl rfl ?_; clear S a; intro a S
 refine l_lit [(.const (.int .u8 58))] S H rfl rfl Tryz.underlying34 sz5 zv5 rfl rfl (by simp [Value.cells]) rfl rfl rfl ?_; clear S a H; intro g2 w a H S
 refine l_ownB [_, _] (l := ([] : List Int)) (r := [58]) S H rfl rfl rfl hown0 (src_lit (vs := ([58]).map (Value.int .u8)) H List.mem_cons_self Tryz.underlying34 (by simp [Value.oneCell'])) Tryz.underlying34 in5 rfl (by simp only [List.length_append, List.length_cons, List.length_nil, wq.dec_len, ints_len]; have := mw.sdec_len hn; omega) (by decide) rfl rfl rfl ?_; clear S a H; intro An3 cn3 own3 w a hn3 H S
 replace H := H.tail
 replace H : HH B wb _ ((gb, .cells #[.slice A0 ([] : List Int).length c0] 34 (0, 0)) :: (own3 ++ (po' ++ ((g1, .cells #[.int .i64 n] 63 (0, 0)) :: (opt go bp br :: (bs ++ L0)))))) := H
 refine l_mv 1 S rfl ?_; clear S a; intro a S
 refine l_store S H rfl rfl rfl .here (by first | decide | simp [Value.cells]) (fun w u hc hz => st1 sz34 rfl hc hz) rfl rfl ?_; clear S a H; intro w a H S
 refine l_nil ?_
 refine e_then ?_
 refine wp_seq ?_
 refine d_start (id := 4) [6, 8] 9 #[false, false, false, false, false, false, false, false, false] H rfl rfl rfl (fun w H => ?_)
 refine d_pure (i := 0) #[true, false, false, false, false, false, false, false, false] S rfl (p_move rfl) (wanted_none rfl) rfl rfl (by kernel_rfl) hq112 ?_; clear S a; intro a S
 refine d_pure (i := 1) #[true, true, false, false, false, false, false, false, false] S rfl (p_move rfl) (wanted_none rfl) rfl rfl (by kernel_rfl) hq112 ?_; clear S a; intro a S
 refine d_pure (i := 2) #[true, true, true, false, false, false, false, false, false] S rfl (p_nilCheck rfl) (wanted_none rfl) rfl rfl (by kernel_rfl) hq112 ?_; clear S a; intro a S
 refine d_read (i := 3) #[true, true, true, true, false, false, false, false, false] S H rfl (r_load rfl List.mem_cons_self rfl (fun w hc => ld1 ag34 hc)) (wanted_none rfl) rfl rfl (by kernel_rfl) hq112 ?_; clear S a; intro a S
 refine d_pure (i := 4) #[true, true, true, true, true, false, false, false, false] S rfl (p_fieldAddr rfl (fun w => fa63_0 w _ _)) (wanted_none rfl) rfl rfl (by kernel_rfl) hq112 ?_; clear S a; intro a S
 refine d_read (i := 5) #[true, true, true, true, true, true, false, false, false] S H rfl (r_load rfl (List.mem_cons_of_mem _ (List.mem_append_right _ (List.mem_append_right _ List.mem_cons_self))) rfl (fun w hc => ld1 ag2 hc)) (wanted_none rfl) rfl rfl (by kernel_rfl) hq112 ?_; clear S a; intro a S
 have hcon := nm.appI_ wb _ B ((gb, .cells #[.slice An3 (([] : List Int) ++ [58]).length cn3] 34 (0, 0)) :: (po' ++ ((g1, .cells #[.int .i64 n] 63 (0, 0)) :: (opt go bp br :: (bs ++ L0))))) ht hT An3 cn3 n (([] : List Int) ++ [58]) own3 hn3 H.mid (by have := mw.sdec_len hn; omega) (by simp only [List.length_append, List.length_cons, List.length_nil, wq.dec_len, ints_len]; have := mw.sdec_len hn; omega)
 refine d_call_last (i := 6) #[true, true, true, true, true, true, true, false, false] S rfl rfl rfl Tryz.func106 rfl rfl hcon (wanted_none rfl) rfl rfl (by kernel_rfl) rfl ?_
 rintro e w ⟨An4, cn4, own4, rfl, hn4, hH⟩
 refine ⟨_, rfl, ?_⟩; clear S a; intro a S; clear H hcon; have H := hH.unmid; clear hH
 refine d_pure (i := 7) #[true, true, true, true, true, true, true, true, false] S rfl (p_nilCheck rfl) (wanted_none rfl) rfl rfl (by kernel_rfl) hq112 ?_; clear S a; intro a S
 refine d_store (i := 8) #[true, true, true, true, true, true, true, true, true] S H rfl rfl rfl rfl .here (by first | decide | simp [Value.cells]) (fun w u hc hz => st1 sz34 rfl hc hz) (wanted_none rfl) rfl (by kernel_rfl) rfl ?_; clear S a H; intro w a H S
 refine d_done (by kernel_rfl) ?_
 refine e_then ?_
 refine wp_seq ?_
 refine d_start (id := 5) [5, 7] 8 #[false, false, false, false, false, false, false, false] H rfl rfl rfl (fun w H => ?_)
 refine d_pure (i := 0) #[true, false, false, false, false, false, false, false] S rfl (p_move rfl) (wanted_none rfl) rfl rfl (by kernel_rfl) hq112 ?_; clear S a; intro a S
 refine d_pure (i := 1) #[true, true, false, false, false, false, false, false] S rfl (p_move rfl) (wanted_none rfl) rfl rfl (by kernel_rfl) hq112 ?_; clear S a; intro a S
 refine d_pure (i := 2) #[true, true, true, false, false, false, false, false] S rfl (p_nilCheck rfl) (wanted_none rfl) rfl rfl (by kernel_rfl) hq112 ?_; clear S a; intro a S
 refine d_read (i := 3) #[true, true, true, true, false, false, false, false] S H rfl (r_load rfl List.mem_cons_self rfl (fun w hc => ld1 ag34 hc)) (wanted_none rfl) rfl rfl (by kernel_rfl) hq112 ?_; clear S a; intro a S
 have hcon := delim_ wb _ B _ H
 refine d_call (i := 4) #[true, true, true, true, true, false, false, false] S rfl rfl rfl Tryz.func107 rfl rfl hcon (wanted_none rfl) rfl rfl (by kernel_rfl) rfl ?_
 rintro e w ⟨gd5, rfl, hH⟩; refine ⟨_, rfl, hH.tail, ?_⟩; clear hcon H; have H := hH; clear hH; clear S a; intro a S
 refine d_ownB (i := 5) [_, _] (xs := ((([] : List Int) ++ [58]) ++ mw.sdec n)) (r := [13, 10]) #[true, true, true, true, true, true, false, false] S H rfl rfl rfl rfl hn4 (src_lit (vs := ([13, 10]).map (Value.int .u8)) H List.mem_cons_self Tryz.underlying34 (by simp [Value.oneCell'])) Tryz.underlying34 in5 rfl (by simp only [List.length_append, List.length_cons, List.length_nil, wq.dec_len, ints_len]; have := mw.sdec_len hn; omega) (by decide) (wanted_none rfl) rfl rfl (by kernel_rfl) rfl ?_; clear S a H; intro An6 cn6 own6 w a hn6 H S
 replace H := H.tail
 replace H : HH B wb _ ((gb, .cells #[.slice An4 ((([] : List Int) ++ [58]) ++ mw.sdec n).length cn4] 34 (0, 0)) :: (own6 ++ (po' ++ ((g1, .cells #[.int .i64 n] 63 (0, 0)) :: (opt go bp br :: (bs ++ L0)))))) := H
 refine d_pure (i := 6) #[true, true, true, true, true, true, true, false] S rfl (p_nilCheck rfl) (wanted_none rfl) rfl rfl (by kernel_rfl) hq112 ?_; clear S a; intro a S
 refine d_store (i := 7) #[true, true, true, true, true, true, true, true] S H rfl rfl rfl rfl .here (by first | decide | simp [Value.cells]) (fun w u hc hz => st1 sz34 rfl hc hz) (wanted_none rfl) rfl (by kernel_rfl) rfl ?_; clear S a H; intro w a H S
 refine d_done (by kernel_rfl) ?_
 refine e_then ?_
 refine wp_seq ?_
 refine d_start (id := 6) [6] 12 #[false, false, false, false, false, false, false, false, false, false, false, false] H rfl rfl rfl (fun w H => ?_)
 refine d_pure (i := 0) #[true, false, false, false, false, false, false, false, false, false, false, false] S rfl (p_move rfl) (wanted_none rfl) rfl rfl (by kernel_rfl) hq112 ?_; clear S a; intro a S
 refine d_pure (i := 1) #[true, true, false, false, false, false, false, false, false, false, false, false] S rfl (p_move rfl) (wanted_none rfl) rfl rfl (by kernel_rfl) hq112 ?_; clear S a; intro a S
 refine d_pure (i := 2) #[true, true, true, false, false, false, false, false, false, false, false, false] S rfl (p_nilCheck rfl) (wanted_none rfl) rfl rfl (by kernel_rfl) hq112 ?_; clear S a; intro a S
 refine d_read (i := 3) #[true, true, true, true, false, false, false, false, false, false, false, false] S H rfl (r_load rfl List.mem_cons_self rfl (fun w hc => ld1 ag34 hc)) (wanted_none rfl) rfl rfl (by kernel_rfl) hq112 ?_; clear S a; intro a S
 refine d_pure (i := 4) #[true, true, true, true, true, false, false, false, false, false, false, false] S rfl (p_nilCheckI rfl) (wanted_none rfl) rfl rfl (by kernel_rfl) hq112 ?_; clear S a; intro a S
 refine d_pure (i := 5) #[true, true, true, true, true, true, false, false, false, false, false, false] S rfl (p_move rfl) (wanted_none rfl) rfl rfl (by kernel_rfl) hq112 ?_; clear S a; intro a S
 obtain ⟨gr, cr, fr, rfl, rfl, hlc, hcr, hth, hrow⟩ := rp.own_open hn6 (by simp only [List.length_append, List.length_cons, List.length_nil]; omega)
 replace H : HH B wb _ ((gb, .cells #[.slice (some ⟨gr, 0, none⟩) (((([] : List Int) ++ [58]) ++ mw.sdec n) ++ [13, 10]).length cn6] 34 (0, 0)) :: ((gr, .cells cr 5 fr) :: (po' ++ ((g1, .cells #[.int .i64 n] 63 (0, 0)) :: (opt go bp br :: (bs ++ L0)))))) := H
 have H2 := HH.front (L1 := ((gb, .cells #[.slice (some ⟨gr, 0, none⟩) (((([] : List Int) ++ [58]) ++ mw.sdec n) ++ [13, 10]).length cn6] 34 (0, 0)) :: ((gr, .cells cr 5 fr) :: (po' ++ ((g1, .cells #[.int .i64 n] 63 (0, 0)) :: [opt go bp br]))))) (S := bs) (L2 := L0) (HH.app H (by simp))
 have hcon := wr.bb.write_ wb _ B (((gb, .cells #[.slice (some ⟨gr, 0, none⟩) (((([] : List Int) ++ [58]) ++ mw.sdec n) ++ [13, 10]).length cn6] 34 (0, 0)) :: ((gr, .cells cr 5 fr) :: (po' ++ ((g1, .cells #[.int .i64 n] 63 (0, 0)) :: [opt go bp br])))) ++ L0) b l bs hz gr 0 cn6 cr fr (((([] : List Int) ++ [58]) ++ mw.sdec n) ++ [13, 10]) (by simp) hrow (by simp only [List.length_append, List.length_cons, List.length_nil]; omega) H2 (by simp only [List.length_append, List.length_cons, List.length_nil, wq.dec_len, ints_len]; have := mw.sdec_len hn; omega)
 refine d_invoke_last (i := 6) #[true, true, true, true, true, true, true, false, false, false, false, false] S rfl rfl rfl rfl (meW _ _) Tryz.func157 rfl rfl hcon (wanted_none rfl) rfl rfl (by kernel_rfl) rfl ?_
 rintro e w ⟨rfl, bs2, hz2, hH⟩
 refine ⟨_, rfl, ?_⟩; clear S a; intro a S; clear H H2 hcon
 have H : HH B wb w ((gb, .cells #[.slice (some ⟨gr, 0, none⟩) (((([] : List Int) ++ [58]) ++ mw.sdec n) ++ [13, 10]).length cn6] 34 (0, 0)) :: ((gr, .cells cr 5 fr) :: (po' ++ ((g1, .cells #[.int .i64 n] 63 (0, 0)) :: (opt go bp br :: (bs2 ++ L0)))))) := HH.app (HH.front (L1 := bs2) (S := ((gb, .cells #[.slice (some ⟨gr, 0, none⟩) (((([] : List Int) ++ [58]) ++ mw.sdec n) ++ [13, 10]).length cn6] 34 (0, 0)) :: ((gr, .cells cr 5 fr) :: (po' ++ ((g1, .cells #[.int .i64 n] 63 (0, 0)) :: [opt go bp br]))))) (L2 := L0) hH) (by simp)
 clear hH
 refine d_pure (i := 7) #[true, true, true, true, true, true, true, true, false, false, false, false] S rfl (p_move rfl) (wanted_none rfl) rfl rfl (by kernel_rfl) hq112 ?_; clear S a; intro a S
 refine d_pure (i := 8) #[true, true, true, true, true, true, true, true, true, false, false, false] S rfl (p_extract rfl rfl) (wanted_none rfl) rfl rfl (by kernel_rfl) hq112 ?_; clear S a; intro a S
 refine d_pure (i := 9) #[true, true, true, true, true, true, true, true, true, true, false, false] S rfl (p_extract rfl rfl) (wanted_none rfl) rfl rfl (by kernel_rfl) hq112 ?_; clear S a; intro a S
 refine d_pure (i := 10) #[true, true, true, true, true, true, true, true, true, true, true, false] S rfl (p_assign rfl) (wanted_none rfl) rfl rfl (by kernel_rfl) hq112 ?_; clear S a; intro a S
 refine d_pure (i := 11) #[true, true, true, true, true, true, true, true, true, true, true, true] S rfl (p_assign rfl) (wanted_none rfl) rfl rfl (by kernel_rfl) hq112 ?_; clear S a; intro a S
 refine d_done (by kernel_rfl) ?_
 refine e_then ?_
 refine wp_seq ?_
 refine c_region ?_
 refine l_mv 2 S rfl ?_; clear S a; intro a S
 refine l_nil ?_
 refine e_then ?_
 refine wp_ret ?_
 refine r_doorA S (wr.pl.put_ wb _ B ((g1, .cells #[.int .i64 n] 63 (0, 0)) :: (opt go bp br :: (bs2 ++ L0))) bp gb cn6 (some ⟨gr, 0, none⟩) (((([] : List Int) ++ [58]) ++ mw.sdec n) ++ [13, 10]) po' [(gr, .cells cr 5 fr)] hp' hn6 H) (invokesA (vs := [.pointer (some ⟨bp, 0, none⟩), .pointer (some ⟨gb, 0, none⟩)]) (caps := []) Tryz.func24 rfl rfl) (fun w' _ => res_t1 rfl rfl) ?_
 rintro w' ⟨po2, hp2, hH⟩
 have H3 := HH.front (L1 := po2) (S := ((g1, .cells #[.int .i64 n] 63 (0, 0)) :: [opt go bp br])) (L2 := bs2 ++ L0) (HH.app hH (by simp))
 exact ⟨rfl, _, ⟨br, po2, bs2, hp2, by simpa [mw.bl] using hz2, rfl⟩, HH.app (L := (opt go bp br :: (po2 ++ (bs2 ++ L0)))) (L' := (opt go bp br :: (po2 ++ bs2)) ++ L0) (HH.app (L' := ((g1, .cells #[.int .i64 n] 63 (0, 0)) :: (opt go bp br :: (po2 ++ (bs2 ++ L0))))) H3 (by simp)).tail (by simp)⟩
set_option maxHeartbeats 1000000 in
theorem nul_ (wb w0 : World) (B : Nat) (L0 : dc.Bk) (go bp b : Nat) (l : List Int) (ls : List (Nat × Obj)) (hE : Env go bp b l ls) (ht : Lib.TabBelow Tryz.prog B wb "internal/strconv.uint64pow10" .u64 Lib.pow10Tab) (hT : fz.PTab 3 B wb) (H : HH B wb w0 (ls ++ L0)) (hl : l.length ≤ 10000000)  : Calls Tryz.prog 113 #[.agg #[], .iface 46 (.pointer (some ⟨b, 0, none⟩)), .pointer (some ⟨go, 0, none⟩)] w0 fun e w' => e = .returned .nilIface ∧ ∃ ls', Env go bp b (l ++ ([95, 13, 10])) ls' ∧ HH B wb w' (ls' ++ L0) := by
 obtain ⟨br, po, bs, hp, hz, rfl⟩ := hE
 replace H : HH B wb w0 (opt go bp br :: (po ++ (bs ++ L0))) := HH.app H (by simp)
 refine c_enter (args := [.agg #[], .iface 46 (.pointer (some ⟨b, 0, none⟩)), .pointer (some ⟨go, 0, none⟩)]) (k := 16) Tryz.func113 rfl rfl rfl (fun a S => ?_)
 refine wp_seq ?_
 refine c_region ?_
 refine l_box (cs := #[]) S H rfl rfl (fun w => bx) rfl rfl rfl ?_; clear S a H; intro g1 w a H S
 refine l_mv 1 S rfl ?_; clear S a; intro a S
 refine l_nil ?_
 refine e_then ?_
 refine wp_seq ?_
 refine d_start (id := 1) [5] 11 #[false, false, false, false, false, false, false, false, false, false, false] H rfl rfl rfl (fun w H => ?_)
 refine d_mv [0] #[true, false, false, false, false, false, false, false, false, false, false] S rfl (by kernel_rfl) (fun _ _ _ _ _ h => h) ?_; clear S a; intro a S
 refine d_pure (i := 2) #[true, false, true, false, false, false, false, false, false, false, false] S rfl (p_func rfl rfl) (wanted_none rfl) rfl rfl (by kernel_rfl) (fun _ _ _ h => h) ?_; clear S a; intro a S
 refine d_pure (i := 3) #[true, false, true, true, false, false, false, false, false, false, false] S rfl (mw.p_nilCheckM rfl (fun w => nilW w _)) (wanted_none rfl) rfl rfl (by kernel_rfl) (fun _ _ _ h => h) ?_; clear S a; intro a S
 refine d_mv [4] #[true, false, true, true, true, false, false, false, false, false, false] S rfl (by kernel_rfl) (fun _ _ _ _ _ h => h) ?_; clear S a; intro a S
 have hcon := null_ wb _ B _ H
 refine d_call (i := 1) #[true, true, true, true, true, false, false, false, false, false, false] S rfl rfl rfl Tryz.func114 rfl rfl hcon (wanted_none rfl) rfl rfl (by kernel_rfl) rfl ?_
 rintro e w ⟨gd2, rfl, hH⟩; refine ⟨_, rfl, hH.tail, ?_⟩; clear hcon H; have H := hH; clear hH; clear S a; intro a S
 have H2 := HH.front (L1 := ((gd2, .cells #[.int .u8 95, .int .u8 13, .int .u8 10] 5 (3, 4)) :: ((g1, .cells #[] 65 (0, 0)) :: (opt go bp br :: po)))) (S := bs) (L2 := L0) (HH.app H (by simp))
 have hcon := wr.bb.write_ wb _ B (((gd2, .cells #[.int .u8 95, .int .u8 13, .int .u8 10] 5 (3, 4)) :: ((g1, .cells #[] 65 (0, 0)) :: (opt go bp br :: po))) ++ L0) b l bs hz gd2 0 3 _ (3, 4) [95, 13, 10] (by simp) (mw.lit_row [95, 13, 10]) (by decide) H2 (by show l.length + 3 ≤ _; omega)
 refine d_invoke_last (i := 5) #[true, true, true, true, true, true, false, false, false, false, false] S rfl rfl rfl rfl (meW _ _) Tryz.func157 rfl rfl hcon (wanted_none rfl) rfl rfl (by kernel_rfl) rfl ?_
 rintro e w ⟨rfl, bs2, hz2, hH⟩
 refine ⟨_, rfl, ?_⟩; clear S a; intro a S; clear H H2 hcon
 have H : HH B wb w ((gd2, .cells #[.int .u8 95, .int .u8 13, .int .u8 10] 5 (3, 4)) :: ((g1, .cells #[] 65 (0, 0)) :: (opt go bp br :: (po ++ (bs2 ++ L0))))) := HH.app (HH.front (L1 := bs2) (S := ((gd2, .cells #[.int .u8 95, .int .u8 13, .int .u8 10] 5 (3, 4)) :: ((g1, .cells #[] 65 (0, 0)) :: (opt go bp br :: po)))) (L2 := L0) hH) (by simp)
 clear hH
 refine d_mv [6, 7, 8, 9, 10] #[true, true, true, true, true, true, true, true, true, true, true] S rfl (by kernel_rfl) (fun _ _ _ _ _ h => h) ?_; clear S a; intro a S
 refine d_done (by kernel_rfl) ?_
 refine e_then ?_
 refine wp_seq ?_
 refine c_region ?_
 refine l_mv 2 S rfl ?_; clear S a; intro a S
 refine l_nil ?_
 refine e_then ?_
 refine wp_ret ?_
 replace H : HH B wb _ ((gd2, .cells #[.int .u8 95, .int .u8 13, .int .u8 10] 5 (3, 4)) :: ((g1, .cells #[] 65 (0, 0)) :: (opt go bp br :: (po ++ (bs2 ++ L0))))) := H
 replace H : HH B wb _ (opt go bp br :: ((gd2, .cells #[.int .u8 95, .int .u8 13, .int .u8 10] 5 (3, 4)) :: ((g1, .cells #[] 65 (0, 0)) :: (po ++ (bs2 ++ L0))))) := HH.app (HH.front (L1 := ((gd2, .cells #[.int .u8 95, .int .u8 13, .int .u8 10] 5 (3, 4)) :: [(g1, .cells #[] 65 (0, 0))])) (S := [opt go bp br]) (L2 := (po ++ (bs2 ++ L0))) (HH.app H (by simp))) (by simp)
 replace H : HH B wb _ (opt go bp br :: (po ++ (bs2 ++ L0))) := H.sub (.cons_cons _ (.cons _ (.cons _ (List.Sublist.append (.refl _) (List.Sublist.append (.refl _) (.refl _))))))
 exact r_ret1 S rfl rfl ⟨rfl, _, ⟨br, po, bs2, hp, by simpa using hz2, rfl⟩, HH.app (L := (opt go bp br :: (po ++ (bs2 ++ L0)))) (L' := (opt go bp br :: (po ++ bs2)) ++ L0) H (by simp)⟩
set_option maxHeartbeats 1000000 in
theorem end_ (wb w0 : World) (B : Nat) (L0 : dc.Bk) (go bp b : Nat) (l : List Int) (ls : List (Nat × Obj)) (hE : Env go bp b l ls) (ht : Lib.TabBelow Tryz.prog B wb "internal/strconv.uint64pow10" .u64 Lib.pow10Tab) (hT : fz.PTab 3 B wb) (H : HH B wb w0 (ls ++ L0)) (hl : l.length ≤ 10000000)  : Calls Tryz.prog 128 #[.agg #[], .iface 46 (.pointer (some ⟨b, 0, none⟩)), .pointer (some ⟨go, 0, none⟩)] w0 fun e w' => e = .returned .nilIface ∧ ∃ ls', Env go bp b (l ++ ([46, 13, 10])) ls' ∧ HH B wb w' (ls' ++ L0) := by
 obtain ⟨br, po, bs, hp, hz, rfl⟩ := hE
 replace H : HH B wb w0 (opt go bp br :: (po ++ (bs ++ L0))) := HH.app H (by simp)
 refine c_enter (args := [.agg #[], .iface 46 (.pointer (some ⟨b, 0, none⟩)), .pointer (some ⟨go, 0, none⟩)]) (k := 16) Tryz.func128 rfl rfl rfl (fun a S => ?_)
 refine wp_seq ?_
 refine c_region ?_
 refine l_box (cs := #[]) S H rfl rfl (fun w => bx) rfl rfl rfl ?_; clear S a H; intro g1 w a H S
 refine l_mv 1 S rfl ?_; clear S a; intro a S
 refine l_nil ?_
 refine e_then ?_
 refine wp_seq ?_
 refine d_start (id := 1) [5] 11 #[false, false, false, false, false, false, false, false, false, false, false] H rfl rfl rfl (fun w H => ?_)
 refine d_mv [0] #[true, false, false, false, false, false, false, false, false, false, false] S rfl (by kernel_rfl) (fun _ _ _ _ _ h => h) ?_; clear S a; intro a S
 refine d_pure (i := 2) #[true, false, true, false, false, false, false, false, false, false, false] S rfl (p_func rfl rfl) (wanted_none rfl) rfl rfl (by kernel_rfl) (fun _ _ _ h => h) ?_; clear S a; intro a S
 refine d_pure (i := 3) #[true, false, true, true, false, false, false, false, false, false, false] S rfl (mw.p_nilCheckM rfl (fun w => nilW w _)) (wanted_none rfl) rfl rfl (by kernel_rfl) (fun _ _ _ h => h) ?_; clear S a; intro a S
 refine d_mv [4] #[true, false, true, true, true, false, false, false, false, false, false] S rfl (by kernel_rfl) (fun _ _ _ _ _ h => h) ?_; clear S a; intro a S
 have hcon := streamAggEnd_ wb _ B _ H
 refine d_call (i := 1) #[true, true, true, true, true, false, false, false, false, false, false] S rfl rfl rfl Tryz.func129 rfl rfl hcon (wanted_none rfl) rfl rfl (by kernel_rfl) rfl ?_
 rintro e w ⟨gd2, rfl, hH⟩; refine ⟨_, rfl, hH.tail, ?_⟩; clear hcon H; have H := hH; clear hH; clear S a; intro a S
 have H2 := HH.front (L1 := ((gd2, .cells #[.int .u8 46, .int .u8 13, .int .u8 10] 5 (3, 4)) :: ((g1, .cells #[] 78 (0, 0)) :: (opt go bp br :: po)))) (S := bs) (L2 := L0) (HH.app H (by simp))
 have hcon := wr.bb.write_ wb _ B (((gd2, .cells #[.int .u8 46, .int .u8 13, .int .u8 10] 5 (3, 4)) :: ((g1, .cells #[] 78 (0, 0)) :: (opt go bp br :: po))) ++ L0) b l bs hz gd2 0 3 _ (3, 4) [46, 13, 10] (by simp) (mw.lit_row [46, 13, 10]) (by decide) H2 (by show l.length + 3 ≤ _; omega)
 refine d_invoke_last (i := 5) #[true, true, true, true, true, true, false, false, false, false, false] S rfl rfl rfl rfl (meW _ _) Tryz.func157 rfl rfl hcon (wanted_none rfl) rfl rfl (by kernel_rfl) rfl ?_
 rintro e w ⟨rfl, bs2, hz2, hH⟩
 refine ⟨_, rfl, ?_⟩; clear S a; intro a S; clear H H2 hcon
 have H : HH B wb w ((gd2, .cells #[.int .u8 46, .int .u8 13, .int .u8 10] 5 (3, 4)) :: ((g1, .cells #[] 78 (0, 0)) :: (opt go bp br :: (po ++ (bs2 ++ L0))))) := HH.app (HH.front (L1 := bs2) (S := ((gd2, .cells #[.int .u8 46, .int .u8 13, .int .u8 10] 5 (3, 4)) :: ((g1, .cells #[] 78 (0, 0)) :: (opt go bp br :: po)))) (L2 := L0) hH) (by simp)
 clear hH
 refine d_mv [6, 7, 8, 9, 10] #[true, true, true, true, true, true, true, true, true, true, true] S rfl (by kernel_rfl) (fun _ _ _ _ _ h => h) ?_; clear S a; intro a S
 refine d_done (by kernel_rfl) ?_
 refine e_then ?_
 refine wp_seq ?_
 refine c_region ?_
 refine l_mv 2 S rfl ?_; clear S a; intro a S
 refine l_nil ?_
 refine e_then ?_
 refine wp_ret ?_
 replace H : HH B wb _ ((gd2, .cells #[.int .u8 46, .int .u8 13, .int .u8 10] 5 (3, 4)) :: ((g1, .cells #[] 78 (0, 0)) :: (opt go bp br :: (po ++ (bs2 ++ L0))))) := H
 replace H : HH B wb _ (opt go bp br :: ((gd2, .cells #[.int .u8 46, .int .u8 13, .int .u8 10] 5 (3, 4)) :: ((g1, .cells #[] 78 (0, 0)) :: (po ++ (bs2 ++ L0))))) := HH.app (HH.front (L1 := ((gd2, .cells #[.int .u8 46, .int .u8 13, .int .u8 10] 5 (3, 4)) :: [(g1, .cells #[] 78 (0, 0))])) (S := [opt go bp br]) (L2 := (po ++ (bs2 ++ L0))) (HH.app H (by simp))) (by simp)
 replace H : HH B wb _ (opt go bp br :: (po ++ (bs2 ++ L0))) := H.sub (.cons_cons _ (.cons _ (.cons _ (List.Sublist.append (.refl _) (List.Sublist.append (.refl _) (.refl _))))))
 exact r_ret1 S rfl rfl ⟨rfl, _, ⟨br, po, bs2, hp, by simpa using hz2, rfl⟩, HH.app (L := (opt go bp br :: (po ++ (bs2 ++ L0)))) (L' := (opt go bp br :: (po ++ bs2)) ++ L0) H (by simp)⟩
set_option maxHeartbeats 1000000 in
theorem bolt_ (wb w0 : World) (B : Nat) (L0 : dc.Bk) (go bp b : Nat) (l : List Int) (ls : List (Nat × Obj)) (hE : Env go bp b l ls) (ht : Lib.TabBelow Tryz.prog B wb "internal/strconv.uint64pow10" .u64 Lib.pow10Tab) (hT : fz.PTab 3 B wb) (H : HH B wb w0 (ls ++ L0)) (hl : l.length ≤ 10000000)  : Calls Tryz.prog 118 #[.agg #[.bool true], .iface 46 (.pointer (some ⟨b, 0, none⟩)), .pointer (some ⟨go, 0, none⟩)] w0 fun e w' => e = .returned .nilIface ∧ ∃ ls', Env go bp b (l ++ ([35, 116, 13, 10])) ls' ∧ HH B wb w' (ls' ++ L0) := by
 obtain ⟨br, po, bs, hp, hz, rfl⟩ := hE
 replace H : HH B wb w0 (opt go bp br :: (po ++ (bs ++ L0))) := HH.app H (by simp)
 refine c_enter (args := [.agg #[.bool true], .iface 46 (.pointer (some ⟨b, 0, none⟩)), .pointer (some ⟨go, 0, none⟩)]) (k := 26) Tryz.func118 rfl rfl rfl (fun a S => ?_)
 refine wp_seq ?_
 refine c_region ?_
 refine l_box (cs := #[.bool true]) S H rfl rfl (fun w => bx) rfl rfl rfl ?_; clear S a H; intro g1 w a H S
 refine l_mv 1 S rfl ?_; clear S a; intro a S
 refine l_nil ?_
 refine e_then ?_
 refine wp_seq ?_
 refine c_region ?_
 refine l_mv 1 S rfl ?_; clear S a; intro a S
 refine l_nil ?_
 refine e_then ?_
 refine wp_seq ?_
 refine wp_seq ?_
 refine c_region ?_
 refine l_pure S (p_fieldAddr rfl (fun w => fa69_0 w _ _)) rfl rfl rfl ?_; clear S a; intro a S
 refine l_read S H (r_load rfl List.mem_cons_self rfl (fun w hc => ld1 ag4 hc)) rfl rfl rfl ?_; clear S a; intro a S
 refine l_nil ?_
 refine e_then ?_
 refine c_cond (b := true) S rfl (fun _ => ?_) (fun h => by cases h)
 refine d_start (id := 3) [5] 10 #[false, false, false, false, false, false, false, false, false, false] H rfl rfl rfl (fun w H => ?_)
 refine d_mv [0] #[true, false, false, false, false, false, false, false, false, false] S rfl (by kernel_rfl) (fun _ _ _ _ _ h => h) ?_; clear S a; intro a S
 refine d_pure (i := 2) #[true, false, true, false, false, false, false, false, false, false] S rfl (p_func rfl rfl) (wanted_none rfl) rfl rfl (by kernel_rfl) (fun _ _ _ h => h) ?_; clear S a; intro a S
 refine d_pure (i := 3) #[true, false, true, true, false, false, false, false, false, false] S rfl (mw.p_nilCheckM rfl (fun w => nilW w _)) (wanted_none rfl) rfl rfl (by kernel_rfl) (fun _ _ _ h => h) ?_; clear S a; intro a S
 refine d_mv [4] #[true, false, true, true, true, false, false, false, false, false] S rfl (by kernel_rfl) (fun _ _ _ _ _ h => h) ?_; clear S a; intro a S
 have hcon := booleanTrue_ wb _ B _ H
 refine d_call (i := 1) #[true, true, true, true, true, false, false, false, false, false] S rfl rfl rfl Tryz.func119 rfl rfl hcon (wanted_none rfl) rfl rfl (by kernel_rfl) rfl ?_
 rintro e w ⟨gd4, rfl, hH⟩; refine ⟨_, rfl, hH.tail, ?_⟩; clear hcon H; have H := hH; clear hH; clear S a; intro a S
 have H2 := HH.front (L1 := ((gd4, .cells #[.int .u8 35, .int .u8 116, .int .u8 13, .int .u8 10] 5 (4, 5)) :: ((g1, .cells #[.bool true] 69 (0, 0)) :: (opt go bp br :: po)))) (S := bs) (L2 := L0) (HH.app H (by simp))
 have hcon := wr.bb.write_ wb _ B (((gd4, .cells #[.int .u8 35, .int .u8 116, .int .u8 13, .int .u8 10] 5 (4, 5)) :: ((g1, .cells #[.bool true] 69 (0, 0)) :: (opt go bp br :: po))) ++ L0) b l bs hz gd4 0 4 _ (4, 5) [35, 116, 13, 10] (by simp) (mw.lit_row [35, 116, 13, 10]) (by decide) H2 (by show l.length + 4 ≤ _; omega)
 refine d_invoke_last (i := 5) #[true, true, true, true, true, true, false, false, false, false] S rfl rfl rfl rfl (meW _ _) Tryz.func157 rfl rfl hcon (wanted_none rfl) rfl rfl (by kernel_rfl) rfl ?_
 rintro e w ⟨rfl, bs2, hz2, hH⟩
 refine ⟨_, rfl, ?_⟩; clear S a; intro a S; clear H H2 hcon
 have H : HH B wb w ((gd4, .cells #[.int .u8 35, .int .u8 116, .int .u8 13, .int .u8 10] 5 (4, 5)) :: ((g1, .cells #[.bool true] 69 (0, 0)) :: (opt go bp br :: (po ++ (bs2 ++ L0))))) := HH.app (HH.front (L1 := bs2) (S := ((gd4, .cells #[.int .u8 35, .int .u8 116, .int .u8 13, .int .u8 10] 5 (4, 5)) :: ((g1, .cells #[.bool true] 69 (0, 0)) :: (opt go bp br :: po)))) (L2 := L0) hH) (by simp)
 clear hH
 refine d_mv [6, 7, 8, 9] #[true, true, true, true, true, true, true, true, true, true] S rfl (by kernel_rfl) (fun _ _ _ _ _ h => h) ?_; clear S a; intro a S
 refine d_done (by kernel_rfl) ?_
 refine e_then ?_
 refine wp_seq ?_
 refine c_region ?_
 refine l_mv 2 S rfl ?_; clear S a; intro a S
 refine l_nil ?_
 refine e_then ?_
 refine wp_ret ?_
 replace H : HH B wb _ ((gd4, .cells #[.int .u8 35, .int .u8 116, .int .u8 13, .int .u8 10] 5 (4, 5)) :: ((g1, .cells #[.bool true] 69 (0, 0)) :: (opt go bp br :: (po ++ (bs2 ++ L0))))) := H
 replace H : HH B wb _ (opt go bp br :: ((gd4, .cells #[.int .u8 35, .int .u8 116, .int .u8 13, .int .u8 10] 5 (4, 5)) :: ((g1, .cells #[.bool true] 69 (0, 0)) :: (po ++ (bs2 ++ L0))))) := HH.app (HH.front (L1 := ((gd4, .cells #[.int .u8 35, .int .u8 116, .int .u8 13, .int .u8 10] 5 (4, 5)) :: [(g1, .cells #[.bool true] 69 (0, 0))])) (S := [opt go bp br]) (L2 := (po ++ (bs2 ++ L0))) (HH.app H (by simp))) (by simp)
 replace H : HH B wb _ (opt go bp br :: (po ++ (bs2 ++ L0))) := H.sub (.cons_cons _ (.cons _ (.cons _ (List.Sublist.append (.refl _) (List.Sublist.append (.refl _) (.refl _))))))
 exact r_ret1 S rfl rfl ⟨rfl, _, ⟨br, po, bs2, hp, by simpa using hz2, rfl⟩, HH.app (L := (opt go bp br :: (po ++ (bs2 ++ L0)))) (L' := (opt go bp br :: (po ++ bs2)) ++ L0) H (by simp)⟩
set_option maxHeartbeats 1000000 in
theorem bolf_ (wb w0 : World) (B : Nat) (L0 : dc.Bk) (go bp b : Nat) (l : List Int) (ls : List (Nat × Obj)) (hE : Env go bp b l ls) (ht : Lib.TabBelow Tryz.prog B wb "internal/strconv.uint64pow10" .u64 Lib.pow10Tab) (hT : fz.PTab 3 B wb) (H : HH B wb w0 (ls ++ L0)) (hl : l.length ≤ 10000000)  : Calls Tryz.prog 118 #[.agg #[.bool false], .iface 46 (.pointer (some ⟨b, 0, none⟩)), .pointer (some ⟨go, 0, none⟩)] w0 fun e w' => e = .returned .nilIface ∧ ∃ ls', Env go bp b (l ++ ([35, 102, 13, 10])) ls' ∧ HH B wb w' (ls' ++ L0) := by
 obtain ⟨br, po, bs, hp, hz, rfl⟩ := hE
 replace H : HH B wb w0 (opt go bp br :: (po ++ (bs ++ L0))) := HH.app H (by simp)
 refine c_enter (args := [.agg #[.bool false], .iface 46 (.pointer (some ⟨b, 0, none⟩)), .pointer (some ⟨go, 0, none⟩)]) (k := 26) Tryz.func118 rfl rfl rfl (fun a S => ?_)
 refine wp_seq ?_
 refine c_region ?_
 refine l_box (cs := #[.bool false]) S H rfl rfl (fun w => bx) rfl rfl rfl ?_; clear S a H; intro g1 w a H S
 refine l_mv 1 S rfl ?_; clear S a; intro a S
 refine l_nil ?_
 refine e_then ?_
 refine wp_seq ?_
 refine c_region ?_
 refine l_mv 1 S rfl ?_; clear S a; intro a S
 refine l_nil ?_
 refine e_then ?_
 refine wp_seq ?_
 refine wp_seq ?_
 refine c_region ?_
 refine l_pure S (p_fieldAddr rfl (fun w => fa69_0 w _ _)) rfl rfl rfl ?_; clear S a; intro a S
 refine l_read S H (r_load rfl List.mem_cons_self rfl (fun w hc => ld1 ag4 hc)) rfl rfl rfl ?_; clear S a; intro a S
 refine l_nil ?_
 refine e_then ?_
 refine c_cond (b := false) S rfl (fun h => by cases h) (fun _ => ?_)
 refine d_start (id := 4) [5] 10 #[false, false, false, false, false, false, false, false, false, false] H rfl rfl rfl (fun w H => ?_)
 refine d_mv [0] #[true, false, false, false, false, false, false, false, false, false] S rfl (by kernel_rfl) (fun _ _ _ _ _ h => h) ?_; clear S a; intro a S
 refine d_pure (i := 2) #[true, false, true, false, false, false, false, false, false, false] S rfl (p_func rfl rfl) (wanted_none rfl) rfl rfl (by kernel_rfl) (fun _ _ _ h => h) ?_; clear S a; intro a S
 refine d_pure (i := 3) #[true, false, true, true, false, false, false, false, false, false] S rfl (mw.p_nilCheckM rfl (fun w => nilW w _)) (wanted_none rfl) rfl rfl (by kernel_rfl) (fun _ _ _ h => h) ?_; clear S a; intro a S
 refine d_mv [4] #[true, false, true, true, true, false, false, false, false, false] S rfl (by kernel_rfl) (fun _ _ _ _ _ h => h) ?_; clear S a; intro a S
 have hcon := booleanFalse_ wb _ B _ H
 refine d_call (i := 1) #[true, true, true, true, true, false, false, false, false, false] S rfl rfl rfl Tryz.func120 rfl rfl hcon (wanted_none rfl) rfl rfl (by kernel_rfl) rfl ?_
 rintro e w ⟨gd4, rfl, hH⟩; refine ⟨_, rfl, hH.tail, ?_⟩; clear hcon H; have H := hH; clear hH; clear S a; intro a S
 have H2 := HH.front (L1 := ((gd4, .cells #[.int .u8 35, .int .u8 102, .int .u8 13, .int .u8 10] 5 (4, 5)) :: ((g1, .cells #[.bool false] 69 (0, 0)) :: (opt go bp br :: po)))) (S := bs) (L2 := L0) (HH.app H (by simp))
 have hcon := wr.bb.write_ wb _ B (((gd4, .cells #[.int .u8 35, .int .u8 102, .int .u8 13, .int .u8 10] 5 (4, 5)) :: ((g1, .cells #[.bool false] 69 (0, 0)) :: (opt go bp br :: po))) ++ L0) b l bs hz gd4 0 4 _ (4, 5) [35, 102, 13, 10] (by simp) (mw.lit_row [35, 102, 13, 10]) (by decide) H2 (by show l.length + 4 ≤ _; omega)
 refine d_invoke_last (i := 5) #[true, true, true, true, true, true, false, false, false, false] S rfl rfl rfl rfl (meW _ _) Tryz.func157 rfl rfl hcon (wanted_none rfl) rfl rfl (by kernel_rfl) rfl ?_
 rintro e w ⟨rfl, bs2, hz2, hH⟩
 refine ⟨_, rfl, ?_⟩; clear S a; intro a S; clear H H2 hcon
 have H : HH B wb w ((gd4, .cells #[.int .u8 35, .int .u8 102, .int .u8 13, .int .u8 10] 5 (4, 5)) :: ((g1, .cells #[.bool false] 69 (0, 0)) :: (opt go bp br :: (po ++ (bs2 ++ L0))))) := HH.app (HH.front (L1 := bs2) (S := ((gd4, .cells #[.int .u8 35, .int .u8 102, .int .u8 13, .int .u8 10] 5 (4, 5)) :: ((g1, .cells #[.bool false] 69 (0, 0)) :: (opt go bp br :: po)))) (L2 := L0) hH) (by simp)
 clear hH
 refine d_mv [6, 7, 8, 9] #[true, true, true, true, true, true, true, true, true, true] S rfl (by kernel_rfl) (fun _ _ _ _ _ h => h) ?_; clear S a; intro a S
 refine d_done (by kernel_rfl) ?_
 refine e_then ?_
 refine wp_seq ?_
 refine c_region ?_
 refine l_mv 2 S rfl ?_; clear S a; intro a S
 refine l_nil ?_
 refine e_then ?_
 refine wp_ret ?_
 replace H : HH B wb _ ((gd4, .cells #[.int .u8 35, .int .u8 102, .int .u8 13, .int .u8 10] 5 (4, 5)) :: ((g1, .cells #[.bool false] 69 (0, 0)) :: (opt go bp br :: (po ++ (bs2 ++ L0))))) := H
 replace H : HH B wb _ (opt go bp br :: ((gd4, .cells #[.int .u8 35, .int .u8 102, .int .u8 13, .int .u8 10] 5 (4, 5)) :: ((g1, .cells #[.bool false] 69 (0, 0)) :: (po ++ (bs2 ++ L0))))) := HH.app (HH.front (L1 := ((gd4, .cells #[.int .u8 35, .int .u8 102, .int .u8 13, .int .u8 10] 5 (4, 5)) :: [(g1, .cells #[.bool false] 69 (0, 0))])) (S := [opt go bp br]) (L2 := (po ++ (bs2 ++ L0))) (HH.app H (by simp))) (by simp)
 replace H : HH B wb _ (opt go bp br :: (po ++ (bs2 ++ L0))) := H.sub (.cons_cons _ (.cons _ (.cons _ (List.Sublist.append (.refl _) (List.Sublist.append (.refl _) (.refl _))))))
 exact r_ret1 S rfl rfl ⟨rfl, _, ⟨br, po, bs2, hp, by simpa using hz2, rfl⟩, HH.app (L := (opt go bp br :: (po ++ (bs2 ++ L0)))) (L' := (opt go bp br :: (po ++ bs2)) ++ L0) H (by simp)⟩
set_option maxHeartbeats 1000000 in
theorem ber_ (wb w0 : World) (B : Nat) (L0 : dc.Bk) (go bp b : Nat) (l : List Int) (ls : List (Nat × Obj)) (hE : Env go bp b l ls) (ht : Lib.TabBelow Tryz.prog B wb "internal/strconv.uint64pow10" .u64 Lib.pow10Tab) (hT : fz.PTab 3 B wb) (H : HH B wb w0 (ls ++ L0)) (hl : l.length ≤ 10000000) (Ax : Option Addr) (cx : Nat) (x : List Int) (ox : List (Nat × Obj)) (hox : OwnB 5 (.slice Ax x.length cx) x ox) (hsx : ∀ p ∈ ox, p ∈ L0) (hx : x.length ≤ 10000000) : Calls Tryz.prog 122 #[.agg #[.slice Ax x.length cx], .iface 46 (.pointer (some ⟨b, 0, none⟩)), .pointer (some ⟨go, 0, none⟩)] w0 fun e w' => e = .returned .nilIface ∧ ∃ ls', Env go bp b (l ++ (mw.bl 33 x.length x)) ls' ∧ HH B wb w' (ls' ++ L0) := by
 obtain ⟨br, po, bs, hp, hz, rfl⟩ := hE
 replace H : HH B wb w0 (opt go bp br :: (po ++ (bs ++ L0))) := HH.app H (by simp)
 refine c_enter_d (args := [.agg #[.slice Ax x.length cx], .iface 46 (.pointer (some ⟨b, 0, none⟩)), .pointer (some ⟨go, 0, none⟩)]) (k := 66) Tryz.func122 rfl rfl rfl (fun a S => ?_)
 refine wp_seq ?_
 refine c_region ?_
 refine l_box (cs := #[.slice Ax x.length cx]) S H rfl rfl (fun w => bx) rfl rfl rfl ?_; clear S a H; intro g1 w a H S
 refine l_mv 1 S rfl ?_; clear S a; intro a S
 refine l_nil ?_
 refine e_then ?_
 refine wp_seq ?_
 refine c_region ?_
 refine l_mv 2 S rfl ?_; clear S a; intro a S
 refine l_pure S (p_fieldAddr rfl (fun w => fa102_0 w _ _)) rfl rfl rfl ?_; clear S a; intro a S
 refine l_read S H (r_load rfl (List.mem_cons_of_mem _ List.mem_cons_self) rfl (fun w hc => ld1 ag84 hc)) rfl rfl rfl ?_; clear S a; intro a S
 replace H : HH B wb _ ((g1, .cells #[.slice Ax x.length cx] 71 (0, 0)) :: (opt go bp br :: (po ++ (bs ++ L0)))) := H
 replace H : HH B wb _ (po ++ ((g1, .cells #[.slice Ax x.length cx] 71 (0, 0)) :: (opt go bp br :: (bs ++ L0)))) := HH.app (HH.front (L1 := ((g1, .cells #[.slice Ax x.length cx] 71 (0, 0)) :: [opt go bp br])) (S := po) (L2 := (bs ++ L0)) (HH.app H (by simp))) (by simp)
 have hcon := wr.pl.get_ wb _ B ((g1, .cells #[.slice Ax x.length cx] 71 (0, 0)) :: (opt go bp br :: (bs ++ L0))) bp po hp H
 refine l_callv (us := [.pointer (some ⟨bp, 0, none⟩)]) (cs := []) S rfl rfl rfl Tryz.func23 rfl rfl hcon rfl rfl rfl ?_
 rintro e w ⟨po', hp', gb, A0, c0, ow0, rfl, hown0, hH⟩
 refine ⟨_, rfl, ?_⟩; clear S a; intro a S; clear H hcon; have H := hH; clear hH
 refine l_mv 1 S rfl ?_; clear S a; intro a S
 refine l_nil ?_
 refine e_then ?_
 refine wp_seq ?_
 refine c_region ?_
 refine l_mv 2 S rfl ?_; clear S a; intro a S
 refine l_pure S (p_fieldAddr rfl (fun w => fa102_1 w _ _)) rfl rfl rfl ?_; clear S a; intro a S
 refine l_read S H (r_load rfl (List.mem_cons_of_mem _ (List.mem_append_right _ (List.mem_append_right _ (List.mem_cons_of_mem _ List.mem_cons_self)))) rfl (fun w hc => ld1 ag85 hc)) rfl rfl rfl ?_; clear S a; intro a S
 refine l_mv 1 S rfl ?_; clear S a; intro a S
 refine l_defer (xs := [.tmp 19]) (us := [.pointer (some ⟨bp, 0, none⟩)]) (cs := []) (vs := [.pointer (some ⟨gb, 0, none⟩)]) S rfl rfl rfl rfl rfl ?_; clear S a; intro a S
 refine l_nil ?_
 refine e_then ?_
 refine wp_seq ?_
 refine c_region ?_
 refine l_mv 3 S rfl ?_; clear S a; intro a S
 refine l_read S H (r_load rfl List.mem_cons_self rfl (fun w hc => ld1 ag34 hc)) rfl rfl rfl ?_; clear S a; intro a S
 refine l_lit [(.const (.int .u8 33))] S H rfl rfl Tryz.underlying34 sz5 zv5 rfl rfl (by simp [Value.cells]) rfl rfl rfl ?_; clear S a H; intro g2 w a H S
 refine l_ownB [_, _] (l := ([] : List Int)) (r := [33]) S H rfl rfl rfl hown0 (src_lit (vs := ([33]).map (Value.int .u8)) H List.mem_cons_self Tryz.underlying34 (by simp [Value.oneCell'])) Tryz.underlying34 in5 rfl (by simp only [List.length_append, List.length_cons, List.length_nil, wq.dec_len, ints_len]; have := wq.nDigits_le (u := x.length) (k := 18) (by omega); omega) (by decide) rfl rfl rfl ?_; clear S a H; intro An3 cn3 own3 w a hn3 H S
 replace H := H.tail
 replace H : HH B wb _ ((gb, .cells #[.slice A0 ([] : List Int).length c0] 34 (0, 0)) :: (own3 ++ (po' ++ ((g1, .cells #[.slice Ax x.length cx] 71 (0, 0)) :: (opt go bp br :: (bs ++ L0)))))) := H
 refine l_mv 1 S rfl ?_; clear S a; intro a S
 refine l_store S H rfl rfl rfl .here (by first | decide | simp [Value.cells]) (fun w u hc hz => st1 sz34 rfl hc hz) rfl rfl ?_; clear S a H; intro w a H S
 refine l_nil ?_
 refine e_then ?_
 refine wp_seq ?_
 refine d_start (id := 4) [7, 9] 10 #[false, false, false, false, false, false, false, false, false, false] H rfl rfl rfl (fun w H => ?_)
 refine d_pure (i := 0) #[true, false, false, false, false, false, false, false, false, false] S rfl (p_move rfl) (wanted_none rfl) rfl rfl (by kernel_rfl) hq122 ?_; clear S a; intro a S
 refine d_pure (i := 1) #[true, true, false, false, false, false, false, false, false, false] S rfl (p_move rfl) (wanted_none rfl) rfl rfl (by kernel_rfl) hq122 ?_; clear S a; intro a S
 refine d_pure (i := 2) #[true, true, true, false, false, false, false, false, false, false] S rfl (p_nilCheck rfl) (wanted_none rfl) rfl rfl (by kernel_rfl) hq122 ?_; clear S a; intro a S
 refine d_read (i := 3) #[true, true, true, true, false, false, false, false, false, false] S H rfl (r_load rfl List.mem_cons_self rfl (fun w hc => ld1 ag34 hc)) (wanted_none rfl) rfl rfl (by kernel_rfl) hq122 ?_; clear S a; intro a S
 refine d_pure (i := 4) #[true, true, true, true, true, false, false, false, false, false] S rfl (p_fieldAddr rfl (fun w => fa71_0 w _ _)) (wanted_none rfl) rfl rfl (by kernel_rfl) hq122 ?_; clear S a; intro a S
 refine d_read (i := 5) #[true, true, true, true, true, true, false, false, false, false] S H rfl (r_load rfl (List.mem_cons_of_mem _ (List.mem_append_right _ (List.mem_append_right _ List.mem_cons_self))) rfl (fun w hc => ld1 ag34 hc)) (wanted_none rfl) rfl rfl (by kernel_rfl) hq122 ?_; clear S a; intro a S
 refine d_pure (i := 6) #[true, true, true, true, true, true, true, false, false, false] S rfl (p_len Tryz.underlying34 rfl) (wanted_none rfl) rfl rfl (by kernel_rfl) hq122 ?_; clear S a; intro a S
 have hcon := nm.appI_ wb _ B ((gb, .cells #[.slice An3 (([] : List Int) ++ [33]).length cn3] 34 (0, 0)) :: (po' ++ ((g1, .cells #[.slice Ax x.length cx] 71 (0, 0)) :: (opt go bp br :: (bs ++ L0))))) ht hT An3 cn3 ((x.length : Nat) : Int) (([] : List Int) ++ [33]) own3 hn3 H.mid (by have := wq.nDigits_le (u := x.length) (k := 18) (by omega); omega) (by simp only [List.length_append, List.length_cons, List.length_nil, wq.dec_len, ints_len]; have := wq.nDigits_le (u := x.length) (k := 18) (by omega); omega)
 refine d_call_last (i := 7) #[true, true, true, true, true, true, true, true, false, false] S rfl rfl rfl Tryz.func106 rfl rfl hcon (wanted_none rfl) rfl rfl (by kernel_rfl) rfl ?_
 rintro e w ⟨An4, cn4, own4, rfl, hn4, hH⟩
 refine ⟨_, rfl, ?_⟩; clear S a; intro a S; clear H hcon; have H := hH.unmid; clear hH
 rw [mw.sdec_nat] at S hn4
 refine d_pure (i := 8) #[true, true, true, true, true, true, true, true, true, false] S rfl (p_nilCheck rfl) (wanted_none rfl) rfl rfl (by kernel_rfl) hq122 ?_; clear S a; intro a S
 refine d_store (i := 9) #[true, true, true, true, true, true, true, true, true, true] S H rfl rfl rfl rfl .here (by first | decide | simp [Value.cells]) (fun w u hc hz => st1 sz34 rfl hc hz) (wanted_none rfl) rfl (by kernel_rfl) rfl ?_; clear S a H; intro w a H S
 refine d_done (by kernel_rfl) ?_
 refine e_then ?_
 refine wp_seq ?_
 refine d_start (id := 5) [5, 7] 8 #[false, false, false, false, false, false, false, false] H rfl rfl rfl (fun w H => ?_)
 refine d_pure (i := 0) #[true, false, false, false, false, false, false, false] S rfl (p_move rfl) (wanted_none rfl) rfl rfl (by kernel_rfl) hq122 ?_; clear S a; intro a S
 refine d_pure (i := 1) #[true, true, false, false, false, false, false, false] S rfl (p_move rfl) (wanted_none rfl) rfl rfl (by kernel_rfl) hq122 ?_; clear S a; intro a S
 refine d_pure (i := 2) #[true, true, true, false, false, false, false, false] S rfl (p_nilCheck rfl) (wanted_none rfl) rfl rfl (by kernel_rfl) hq122 ?_; clear S a; intro a S
 refine d_read (i := 3) #[true, true, true, true, false, false, false, false] S H rfl (r_load rfl List.mem_cons_self rfl (fun w hc => ld1 ag34 hc)) (wanted_none rfl) rfl rfl (by kernel_rfl) hq122 ?_; clear S a; intro a S
 have hcon := delim_ wb _ B _ H
 refine d_call (i := 4) #[true, true, true, true, true, false, false, false] S rfl rfl rfl Tryz.func107 rfl rfl hcon (wanted_none rfl) rfl rfl (by kernel_rfl) rfl ?_
 rintro e w ⟨gd5, rfl, hH⟩; refine ⟨_, rfl, hH.tail, ?_⟩; clear hcon H; have H := hH; clear hH; clear S a; intro a S
 refine d_ownB (i := 5) [_, _] (xs := ((([] : List Int) ++ [33]) ++ wq.dec x.length)) (r := [13, 10]) #[true, true, true, true, true, true, false, false] S H rfl rfl rfl rfl hn4 (src_lit (vs := ([13, 10]).map (Value.int .u8)) H List.mem_cons_self Tryz.underlying34 (by simp [Value.oneCell'])) Tryz.underlying34 in5 rfl (by simp only [List.length_append, List.length_cons, List.length_nil, wq.dec_len, ints_len]; have := wq.nDigits_le (u := x.length) (k := 18) (by omega); omega) (by decide) (wanted_none rfl) rfl rfl (by kernel_rfl) rfl ?_; clear S a H; intro An6 cn6 own6 w a hn6 H S
 replace H := H.tail
 replace H : HH B wb _ ((gb, .cells #[.slice An4 ((([] : List Int) ++ [33]) ++ wq.dec x.length).length cn4] 34 (0, 0)) :: (own6 ++ (po' ++ ((g1, .cells #[.slice Ax x.length cx] 71 (0, 0)) :: (opt go bp br :: (bs ++ L0)))))) := H
 refine d_pure (i := 6) #[true, true, true, true, true, true, true, false] S rfl (p_nilCheck rfl) (wanted_none rfl) rfl rfl (by kernel_rfl) hq122 ?_; clear S a; intro a S
 refine d_store (i := 7) #[true, true, true, true, true, true, true, true] S H rfl rfl rfl rfl .here (by first | decide | simp [Value.cells]) (fun w u hc hz => st1 sz34 rfl hc hz) (wanted_none rfl) rfl (by kernel_rfl) rfl ?_; clear S a H; intro w a H S
 refine d_done (by kernel_rfl) ?_
 refine e_then ?_
 refine wp_seq ?_
 refine d_start (id := 6) [6, 8] 9 #[false, false, false, false, false, false, false, false, false] H rfl rfl rfl (fun w H => ?_)
 refine d_pure (i := 0) #[true, false, false, false, false, false, false, false, false] S rfl (p_move rfl) (wanted_none rfl) rfl rfl (by kernel_rfl) hq122 ?_; clear S a; intro a S
 refine d_pure (i := 1) #[true, true, false, false, false, false, false, false, false] S rfl (p_move rfl) (wanted_none rfl) rfl rfl (by kernel_rfl) hq122 ?_; clear S a; intro a S
 refine d_pure (i := 2) #[true, true, true, false, false, false, false, false, false] S rfl (p_nilCheck rfl) (wanted_none rfl) rfl rfl (by kernel_rfl) hq122 ?_; clear S a; intro a S
 refine d_read (i := 3) #[true, true, true, true, false, false, false, false, false] S H rfl (r_load rfl List.mem_cons_self rfl (fun w hc => ld1 ag34 hc)) (wanted_none rfl) rfl rfl (by kernel_rfl) hq122 ?_; clear S a; intro a S
 refine d_pure (i := 4) #[true, true, true, true, true, false, false, false, false] S rfl (p_fieldAddr rfl (fun w => fa71_0 w _ _)) (wanted_none rfl) rfl rfl (by kernel_rfl) hq122 ?_; clear S a; intro a S
 refine d_read (i := 5) #[true, true, true, true, true, true, false, false, false] S H rfl (r_load rfl (List.mem_cons_of_mem _ (List.mem_append_right _ (List.mem_append_right _ List.mem_cons_self))) rfl (fun w hc => ld1 ag34 hc)) (wanted_none rfl) rfl rfl (by kernel_rfl) hq122 ?_; clear S a; intro a S
 refine d_ownB (i := 6) [_] (xs := (((([] : List Int) ++ [33]) ++ wq.dec x.length) ++ [13, 10])) (r := x) #[true, true, true, true, true, true, true, false, false] S H rfl rfl rfl rfl hn6 (mw.own_src hox (fun p hp => by have := hsx p hp; simp [this]) H Tryz.underlying34) Tryz.underlying34 in5 rfl (by simp only [List.length_append, List.length_cons, List.length_nil, wq.dec_len, ints_len]; have := wq.nDigits_le (u := x.length) (k := 18) (by omega); omega) (by decide) (wanted_none rfl) rfl rfl (by kernel_rfl) rfl ?_; clear S a H; intro An7 cn7 own7 w a hn7 H S
 replace H : HH B wb _ ((gb, .cells #[.slice An6 (((([] : List Int) ++ [33]) ++ wq.dec x.length) ++ [13, 10]).length cn6] 34 (0, 0)) :: (own7 ++ (po' ++ ((g1, .cells #[.slice Ax x.length cx] 71 (0, 0)) :: (opt go bp br :: (bs ++ L0)))))) := H
 refine d_pure (i := 7) #[true, true, true, true, true, true, true, true, false] S rfl (p_nilCheck rfl) (wanted_none rfl) rfl rfl (by kernel_rfl) hq122 ?_; clear S a; intro a S
 refine d_store (i := 8) #[true, true, true, true, true, true, true, true, true] S H rfl rfl rfl rfl .here (by first | decide | simp [Value.cells]) (fun w u hc hz => st1 sz34 rfl hc hz) (wanted_none rfl) rfl (by kernel_rfl) rfl ?_; clear S a H; intro w a H S
 refine d_done (by kernel_rfl) ?_
 refine e_then ?_
 refine wp_seq ?_
 refine d_start (id := 7) [5, 7] 8 #[false, false, false, false, false, false, false, false] H rfl rfl rfl (fun w H => ?_)
 refine d_pure (i := 0) #[true, false, false, false, false, false, false, false] S rfl (p_move rfl) (wanted_none rfl) rfl rfl (by kernel_rfl) hq122 ?_; clear S a; intro a S
 refine d_pure (i := 1) #[true, true, false, false, false, false, false, false] S rfl (p_move rfl) (wanted_none rfl) rfl rfl (by kernel_rfl) hq122 ?_; clear S a; intro a S
 refine d_pure (i := 2) #[true, true, true, false, false, false, false, false] S rfl (p_nilCheck rfl) (wanted_none rfl) rfl rfl (by kernel_rfl) hq122 ?_; clear S a; intro a S
 refine d_read (i := 3) #[true, true, true, true, false, false, false, false] S H rfl (r_load rfl List.mem_cons_self rfl (fun w hc => ld1 ag34 hc)) (wanted_none rfl) rfl rfl (by kernel_rfl) hq122 ?_; clear S a; intro a S
 have hcon := delim_ wb _ B _ H
 refine d_call (i := 4) #[true, true, true, true, true, false, false, false] S rfl rfl rfl Tryz.func107 rfl rfl hcon (wanted_none rfl) rfl rfl (by kernel_rfl) rfl ?_
 rintro e w ⟨gd8, rfl, hH⟩; refine ⟨_, rfl, hH.tail, ?_⟩; clear hcon H; have H := hH; clear hH; clear S a; intro a S
 refine d_ownB (i := 5) [_, _] (xs := ((((([] : List Int) ++ [33]) ++ wq.dec x.length) ++ [13, 10]) ++ x)) (r := [13, 10]) #[true, true, true, true, true, true, false, false] S H rfl rfl rfl rfl hn7 (src_lit (vs := ([13, 10]).map (Value.int .u8)) H List.mem_cons_self Tryz.underlying34 (by simp [Value.oneCell'])) Tryz.underlying34 in5 rfl (by simp only [List.length_append, List.length_cons, List.length_nil, wq.dec_len, ints_len]; have := wq.nDigits_le (u := x.length) (k := 18) (by omega); omega) (by decide) (wanted_none rfl) rfl rfl (by kernel_rfl) rfl ?_; clear S a H; intro An9 cn9 own9 w a hn9 H S
 replace H := H.tail
 replace H : HH B wb _ ((gb, .cells #[.slice An7 ((((([] : List Int) ++ [33]) ++ wq.dec x.length) ++ [13, 10]) ++ x).length cn7] 34 (0, 0)) :: (own9 ++ (po' ++ ((g1, .cells #[.slice Ax x.length cx] 71 (0, 0)) :: (opt go bp br :: (bs ++ L0)))))) := H
 refine d_pure (i := 6) #[true, true, true, true, true, true, true, false] S rfl (p_nilCheck rfl) (wanted_none rfl) rfl rfl (by kernel_rfl) hq122 ?_; clear S a; intro a S
 refine d_store (i := 7) #[true, true, true, true, true, true, true, true] S H rfl rfl rfl rfl .here (by first | decide | simp [Value.cells]) (fun w u hc hz => st1 sz34 rfl hc hz) (wanted_none rfl) rfl (by kernel_rfl) rfl ?_; clear S a H; intro w a H S
 refine d_done (by kernel_rfl) ?_
 refine e_then ?_
 refine wp_seq ?_
 refine d_start (id := 8) [6] 12 #[false, false, false, false, false, false, false, false, false, false, false, false] H rfl rfl rfl (fun w H => ?_)
 refine d_pure (i := 0) #[true, false, false, false, false, false, false, false, false, false, false, false] S rfl (p_move rfl) (wanted_none rfl) rfl rfl (by kernel_rfl) hq122 ?_; clear S a; intro a S
 refine d_pure (i := 1) #[true, true, false, false, false, false, false, false, false, false, false, false] S rfl (p_move rfl) (wanted_none rfl) rfl rfl (by kernel_rfl) hq122 ?_; clear S a; intro a S
 refine d_pure (i := 2) #[true, true, true, false, false, false, false, false, false, false, false, false] S rfl (p_nilCheck rfl) (wanted_none rfl) rfl rfl (by kernel_rfl) hq122 ?_; clear S a; intro a S
 refine d_read (i := 3) #[true, true, true, true, false, false, false, false, false, false, false, false] S H rfl (r_load rfl List.mem_cons_self rfl (fun w hc => ld1 ag34 hc)) (wanted_none rfl) rfl rfl (by kernel_rfl) hq122 ?_; clear S a; intro a S
 refine d_pure (i := 4) #[true, true, true, true, true, false, false, false, false, false, false, false] S rfl (p_nilCheckI rfl) (wanted_none rfl) rfl rfl (by kernel_rfl) hq122 ?_; clear S a; intro a S
 refine d_pure (i := 5) #[true, true, true, true, true, true, false, false, false, false, false, false] S rfl (p_move rfl) (wanted_none rfl) rfl rfl (by kernel_rfl) hq122 ?_; clear S a; intro a S
 obtain ⟨gr, cr, fr, rfl, rfl, hlc, hcr, hth, hrow⟩ := rp.own_open hn9 (by simp only [List.length_append, List.length_cons, List.length_nil]; omega)
 replace H : HH B wb _ ((gb, .cells #[.slice (some ⟨gr, 0, none⟩) (((((([] : List Int) ++ [33]) ++ wq.dec x.length) ++ [13, 10]) ++ x) ++ [13, 10]).length cn9] 34 (0, 0)) :: ((gr, .cells cr 5 fr) :: (po' ++ ((g1, .cells #[.slice Ax x.length cx] 71 (0, 0)) :: (opt go bp br :: (bs ++ L0)))))) := H
 have H2 := HH.front (L1 := ((gb, .cells #[.slice (some ⟨gr, 0, none⟩) (((((([] : List Int) ++ [33]) ++ wq.dec x.length) ++ [13, 10]) ++ x) ++ [13, 10]).length cn9] 34 (0, 0)) :: ((gr, .cells cr 5 fr) :: (po' ++ ((g1, .cells #[.slice Ax x.length cx] 71 (0, 0)) :: [opt go bp br]))))) (S := bs) (L2 := L0) (HH.app H (by simp))
 have hcon := wr.bb.write_ wb _ B (((gb, .cells #[.slice (some ⟨gr, 0, none⟩) (((((([] : List Int) ++ [33]) ++ wq.dec x.length) ++ [13, 10]) ++ x) ++ [13, 10]).length cn9] 34 (0, 0)) :: ((gr, .cells cr 5 fr) :: (po' ++ ((g1, .cells #[.slice Ax x.length cx] 71 (0, 0)) :: [opt go bp br])))) ++ L0) b l bs hz gr 0 cn9 cr fr (((((([] : List Int) ++ [33]) ++ wq.dec x.length) ++ [13, 10]) ++ x) ++ [13, 10]) (by simp) hrow (by simp only [List.length_append, List.length_cons, List.length_nil]; omega) H2 (by simp only [List.length_append, List.length_cons, List.length_nil, wq.dec_len, ints_len]; have := wq.nDigits_le (u := x.length) (k := 18) (by omega); omega)
 refine d_invoke_last (i := 6) #[true, true, true, true, true, true, true, false, false, false, false, false] S rfl rfl rfl rfl (meW _ _) Tryz.func157 rfl rfl hcon (wanted_none rfl) rfl rfl (by kernel_rfl) rfl ?_
 rintro e w ⟨rfl, bs2, hz2, hH⟩
 refine ⟨_, rfl, ?_⟩; clear S a; intro a S; clear H H2 hcon
 have H : HH B wb w ((gb, .cells #[.slice (some ⟨gr, 0, none⟩) (((((([] : List Int) ++ [33]) ++ wq.dec x.length) ++ [13, 10]) ++ x) ++ [13, 10]).length cn9] 34 (0, 0)) :: ((gr, .cells cr 5 fr) :: (po' ++ ((g1, .cells #[.slice Ax x.length cx] 71 (0, 0)) :: (opt go bp br :: (bs2 ++ L0)))))) := HH.app (HH.front (L1 := bs2) (S := ((gb, .cells #[.slice (some ⟨gr, 0, none⟩) (((((([] : List Int) ++ [33]) ++ wq.dec x.length) ++ [13, 10]) ++ x) ++ [13, 10]).length cn9] 34 (0, 0)) :: ((gr, .cells cr 5 fr) :: (po' ++ ((g1, .cells #[.slice Ax x.length cx] 71 (0, 0)) :: [opt go bp br]))))) (L2 := L0) hH) (by simp)
 clear hH
 refine d_pure (i := 7) #[true, true, true, true, true, true, true, true, false, false, false, false] S rfl (p_move rfl) (wanted_none rfl) rfl rfl (by kernel_rfl) hq122 ?_; clear S a; intro a S
 refine d_pure (i := 8) #[true, true, true, true, true, true, true, true, true, false, false, false] S rfl (p_extract rfl rfl) (wanted_none rfl) rfl rfl (by kernel_rfl) hq122 ?_; clear S a; intro a S
 refine d_pure (i := 9) #[true, true, true, true, true, true, true, true, true, true, false, false] S rfl (p_extract rfl rfl) (wanted_none rfl) rfl rfl (by kernel_rfl) hq122 ?_; clear S a; intro a S
 refine d_pure (i := 10) #[true, true, true, true, true, true, true, true, true, true, true, false] S rfl (p_assign rfl) (wanted_none rfl) rfl rfl (by kernel_rfl) hq122 ?_; clear S a; intro a S
 refine d_pure (i := 11) #[true, true, true, true, true, true, true, true, true, true, true, true] S rfl (p_assign rfl) (wanted_none rfl) rfl rfl (by kernel_rfl) hq122 ?_; clear S a; intro a S
 refine d_done (by kernel_rfl) ?_
 refine e_then ?_
 refine wp_seq ?_
 refine c_region ?_
 refine l_mv 2 S rfl ?_; clear S a; intro a S
 refine l_nil ?_
 refine e_then ?_
 refine wp_ret ?_
 refine r_doorA S (wr.pl.put_ wb _ B ((g1, .cells #[.slice Ax x.length cx] 71 (0, 0)) :: (opt go bp br :: (bs2 ++ L0))) bp gb cn9 (some ⟨gr, 0, none⟩) (((((([] : List Int) ++ [33]) ++ wq.dec x.length) ++ [13, 10]) ++ x) ++ [13, 10]) po' [(gr, .cells cr 5 fr)] hp' hn9 H) (invokesA (vs := [.pointer (some ⟨bp, 0, none⟩), .pointer (some ⟨gb, 0, none⟩)]) (caps := []) Tryz.func24 rfl rfl) (fun w' _ => res_t1 rfl rfl) ?_
 rintro w' ⟨po2, hp2, hH⟩
 have H3 := HH.front (L1 := po2) (S := ((g1, .cells #[.slice Ax x.length cx] 71 (0, 0)) :: [opt go bp br])) (L2 := bs2 ++ L0) (HH.app hH (by simp))
 exact ⟨rfl, _, ⟨br, po2, bs2, hp2, by simpa [mw.bl] using hz2, rfl⟩, HH.app (L := (opt go bp br :: (po2 ++ (bs2 ++ L0)))) (L' := (opt go bp br :: (po2 ++ bs2)) ++ L0) (HH.app (L' := ((g1, .cells #[.slice Ax x.length cx] 71 (0, 0)) :: (opt go bp br :: (po2 ++ (bs2 ++ L0))))) H3 (by simp)).tail (by simp)⟩
end ms
end Go.Proofs.YtfbfmcjjohiikaaGreatDoor.mw
end
