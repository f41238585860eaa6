/- the wire of a message -/
import Derived.Test.YtfbfmcjjohiikaaGreatDoorQ04
import Derived.Test.YtfbfmcjjohiikaaGreatDoorQ01
set_option linter.unusedVariables false
set_option linter.unusedSimpArgs false
section
namespace Go.Proofs.YtfbfmcjjohiikaaGreatDoor.mw
open Go.Proofs.YtfbfmcjjohiikaaGreatDoor.fx
open Go.RowKit Go.Proofs.HHW Go.Proofs.YtfbfmcjjohiikaaGreatDoorW.PrintWords
namespace ms
set_option maxHeartbeats 1000000 in
theorem vst_ (wb w0 : World) (B : Nat) (L0 : dc.Bk) (go bp b : Nat) (l : List Int) (ls : List (Nat × Obj)) (hE : Env go bp b l ls) (ht : Lib.TabBelow Tryz.prog B wb "internal/strconv.uint64pow10" .u64 Lib.pow10Tab) (hT : fz.PTab 3 B wb) (H : HH B wb w0 (ls ++ L0)) (hl : l.length ≤ 10000000) (tx : ByteArray) (htx : tx.size ≤ 10000000) (fx : ByteArray) (hfx : fx.size = 3) : Calls Tryz.prog 125 #[.agg #[.string tx, .string fx], .iface 46 (.pointer (some ⟨b, 0, none⟩)), .pointer (some ⟨go, 0, none⟩)] w0 fun e w' => e = .returned .nilIface ∧ ∃ ls', Env go bp b (l ++ (mw.bl 61 (tx.size + 4) (ints fx ++ [58] ++ ints tx))) ls' ∧ HH B wb w' (ls' ++ L0) := by
 obtain ⟨br, po, bs, hp, hz, rfl⟩ := hE
 replace H : HH B wb w0 (opt go bp br :: (po ++ (bs ++ L0))) := HH.app H (by simp)
 refine c_enter_d (args := [.agg #[.string tx, .string fx], .iface 46 (.pointer (some ⟨b, 0, none⟩)), .pointer (some ⟨go, 0, none⟩)]) (k := 89) Tryz.func125 rfl rfl rfl (fun a S => ?_)
 refine wp_seq ?_
 refine c_region ?_
 refine l_box (cs := #[.string tx, .string fx]) S H rfl rfl (fun w => bx) rfl rfl rfl ?_; clear S a H; intro g1 w a H S
 refine l_mv 1 S rfl ?_; clear S a; intro a S
 refine l_nil ?_
 refine e_then ?_
 refine wp_seq ?_
 refine wp_seq ?_
 refine c_region ?_
 refine l_pure S (p_fieldAddr rfl (fun w => fa75_1 w _ _)) rfl rfl rfl ?_; clear S a; intro a S
 refine l_read S H (r_load rfl List.mem_cons_self rfl (fun w hc => ld1 ag9 hc)) rfl rfl rfl ?_; clear S a; intro a S
 refine l_pure S (p_lens Tryz.underlying9 rfl) rfl rfl rfl ?_; clear S a; intro a S
 refine l_pure S (p_neq rfl rfl) rfl rfl rfl ?_; clear S a; intro a S
 refine l_nil ?_
 refine e_then ?_
 refine c_cond S rfl (fun c3 => by have c3 := bne_iff_ne.1 c3; exfalso; omega) (fun c3 => ?_)
 have c3 := bne_eq_false_iff_eq.1 c3
 refine wp_skip ?_
 refine e_then ?_
 refine wp_seq ?_
 refine c_region ?_
 refine l_mv 2 S rfl ?_; clear S a; intro a S
 refine l_pure S (p_fieldAddr rfl (fun w => fa102_0 w _ _)) rfl rfl rfl ?_; clear S a; intro a S
 refine l_read S H (r_load rfl (List.mem_cons_of_mem _ List.mem_cons_self) rfl (fun w hc => ld1 ag84 hc)) rfl rfl rfl ?_; clear S a; intro a S
 replace H : HH B wb _ ((g1, .cells #[.string tx, .string fx] 75 (0, 0)) :: (opt go bp br :: (po ++ (bs ++ L0)))) := H
 replace H : HH B wb _ (po ++ ((g1, .cells #[.string tx, .string fx] 75 (0, 0)) :: (opt go bp br :: (bs ++ L0)))) := HH.app (HH.front (L1 := ((g1, .cells #[.string tx, .string fx] 75 (0, 0)) :: [opt go bp br])) (S := po) (L2 := (bs ++ L0)) (HH.app H (by simp))) (by simp)
 have hcon := wr.pl.get_ wb _ B ((g1, .cells #[.string tx, .string fx] 75 (0, 0)) :: (opt go bp br :: (bs ++ L0))) bp po hp H
 refine l_callv (us := [.pointer (some ⟨bp, 0, none⟩)]) (cs := []) S rfl rfl rfl Tryz.func23 rfl rfl hcon rfl rfl rfl ?_
 rintro e w ⟨po', hp', gb, A0, c0, ow0, rfl, hown0, hH⟩
 refine ⟨_, rfl, ?_⟩; clear S a; intro a S; clear H hcon; have H := hH; clear hH
 refine l_mv 1 S rfl ?_; clear S a; intro a S
 refine l_nil ?_
 refine e_then ?_
 refine wp_seq ?_
 refine c_region ?_
 refine l_mv 2 S rfl ?_; clear S a; intro a S
 refine l_pure S (p_fieldAddr rfl (fun w => fa102_1 w _ _)) rfl rfl rfl ?_; clear S a; intro a S
 refine l_read S H (r_load rfl (List.mem_cons_of_mem _ (List.mem_append_right _ (List.mem_append_right _ (List.mem_cons_of_mem _ List.mem_cons_self)))) rfl (fun w hc => ld1 ag85 hc)) rfl rfl rfl ?_; clear S a; intro a S
 refine l_mv 1 S rfl ?_; clear S a; intro a S
 refine l_defer (xs := [.tmp 26]) (us := [.pointer (some ⟨bp, 0, none⟩)]) (cs := []) (vs := [.pointer (some ⟨gb, 0, none⟩)]) S rfl rfl rfl rfl rfl ?_; clear S a; intro a S
 refine l_nil ?_
 refine e_then ?_
 refine wp_seq ?_
 refine c_region ?_
 refine l_mv 3 S rfl ?_; clear S a; intro a S
 refine l_read S H (r_load rfl List.mem_cons_self rfl (fun w hc => ld1 ag34 hc)) rfl rfl rfl ?_; clear S a; intro a S
 refine l_lit [(.const (.int .u8 61))] S H rfl rfl Tryz.underlying34 sz5 zv5 rfl rfl (by simp [Value.cells]) rfl rfl rfl ?_; clear S a H; intro g4 w a H S
 refine l_ownB [_, _] (l := ([] : List Int)) (r := [61]) S H rfl rfl rfl hown0 (src_lit (vs := ([61]).map (Value.int .u8)) H List.mem_cons_self Tryz.underlying34 (by simp [Value.oneCell'])) Tryz.underlying34 in5 rfl (by simp only [List.length_append, List.length_cons, List.length_nil, wq.dec_len, ints_len]; have := wq.nDigits_le (u := (tx.size + 4)) (k := 18) (by omega); omega) (by decide) rfl rfl rfl ?_; clear S a H; intro An5 cn5 own5 w a hn5 H S
 replace H := H.tail
 replace H : HH B wb _ ((gb, .cells #[.slice A0 ([] : List Int).length c0] 34 (0, 0)) :: (own5 ++ (po' ++ ((g1, .cells #[.string tx, .string fx] 75 (0, 0)) :: (opt go bp br :: (bs ++ L0)))))) := H
 refine l_mv 1 S rfl ?_; clear S a; intro a S
 refine l_store S H rfl rfl rfl .here (by first | decide | simp [Value.cells]) (fun w u hc hz => st1 sz34 rfl hc hz) rfl rfl ?_; clear S a H; intro w a H S
 refine l_nil ?_
 refine e_then ?_
 refine wp_seq ?_
 refine d_start (id := 6) [8, 10] 11 #[false, false, false, false, false, false, false, false, false, false, false] H rfl rfl rfl (fun w H => ?_)
 refine d_pure (i := 0) #[true, false, false, false, false, false, false, false, false, false, false] S rfl (p_move rfl) (wanted_none rfl) rfl rfl (by kernel_rfl) hq125 ?_; clear S a; intro a S
 refine d_pure (i := 1) #[true, true, false, false, false, false, false, false, false, false, false] S rfl (p_move rfl) (wanted_none rfl) rfl rfl (by kernel_rfl) hq125 ?_; clear S a; intro a S
 refine d_pure (i := 2) #[true, true, true, false, false, false, false, false, false, false, false] S rfl (p_nilCheck rfl) (wanted_none rfl) rfl rfl (by kernel_rfl) hq125 ?_; clear S a; intro a S
 refine d_read (i := 3) #[true, true, true, true, false, false, false, false, false, false, false] S H rfl (r_load rfl List.mem_cons_self rfl (fun w hc => ld1 ag34 hc)) (wanted_none rfl) rfl rfl (by kernel_rfl) hq125 ?_; clear S a; intro a S
 refine d_pure (i := 4) #[true, true, true, true, true, false, false, false, false, false, false] S rfl (p_fieldAddr rfl (fun w => fa75_0 w _ _)) (wanted_none rfl) rfl rfl (by kernel_rfl) hq125 ?_; clear S a; intro a S
 refine d_read (i := 5) #[true, true, true, true, true, true, false, false, false, false, false] S H rfl (r_load rfl (List.mem_cons_of_mem _ (List.mem_append_right _ (List.mem_append_right _ List.mem_cons_self))) rfl (fun w hc => ld1 ag9 hc)) (wanted_none rfl) rfl rfl (by kernel_rfl) hq125 ?_; clear S a; intro a S
 refine d_pure (i := 6) #[true, true, true, true, true, true, true, false, false, false, false] S rfl (p_lens Tryz.underlying9 rfl) (wanted_none rfl) rfl rfl (by kernel_rfl) hq125 ?_; clear S a; intro a S
 refine d_pure (i := 7) #[true, true, true, true, true, true, true, true, false, false, false] S rfl (p_add rfl rfl (nat_add (x := tx.size) (y := 4) (by omega))) (wanted_none rfl) rfl rfl (by kernel_rfl) hq125 ?_; clear S a; intro a S
 have hcon := nm.appI_ wb _ B ((gb, .cells #[.slice An5 (([] : List Int) ++ [61]).length cn5] 34 (0, 0)) :: (po' ++ ((g1, .cells #[.string tx, .string fx] 75 (0, 0)) :: (opt go bp br :: (bs ++ L0))))) ht hT An5 cn5 (((tx.size + 4) : Nat) : Int) (([] : List Int) ++ [61]) own5 hn5 H.mid (by have := wq.nDigits_le (u := (tx.size + 4)) (k := 18) (by omega); omega) (by simp only [List.length_append, List.length_cons, List.length_nil, wq.dec_len, ints_len]; have := wq.nDigits_le (u := (tx.size + 4)) (k := 18) (by omega); omega)
 refine d_call_last (i := 8) #[true, true, true, true, true, true, true, true, true, false, false] S rfl rfl rfl Tryz.func106 rfl rfl hcon (wanted_none rfl) rfl rfl (by kernel_rfl) rfl ?_
 rintro e w ⟨An6, cn6, own6, rfl, hn6, hH⟩
 refine ⟨_, rfl, ?_⟩; clear S a; intro a S; clear H hcon; have H := hH.unmid; clear hH
 rw [mw.sdec_nat] at S hn6
 refine d_pure (i := 9) #[true, true, true, true, true, true, true, true, true, true, false] S rfl (p_nilCheck rfl) (wanted_none rfl) rfl rfl (by kernel_rfl) hq125 ?_; clear S a; intro a S
 refine d_store (i := 10) #[true, true, true, true, true, true, true, true, true, true, true] S H rfl rfl rfl rfl .here (by first | decide | simp [Value.cells]) (fun w u hc hz => st1 sz34 rfl hc hz) (wanted_none rfl) rfl (by kernel_rfl) rfl ?_; clear S a H; intro w a H S
 refine d_done (by kernel_rfl) ?_
 refine e_then ?_
 refine wp_seq ?_
 refine d_start (id := 7) [5, 7] 8 #[false, false, false, false, false, false, false, false] H rfl rfl rfl (fun w H => ?_)
 refine d_pure (i := 0) #[true, false, false, false, false, false, false, false] S rfl (p_move rfl) (wanted_none rfl) rfl rfl (by kernel_rfl) hq125 ?_; clear S a; intro a S
 refine d_pure (i := 1) #[true, true, false, false, false, false, false, false] S rfl (p_move rfl) (wanted_none rfl) rfl rfl (by kernel_rfl) hq125 ?_; clear S a; intro a S
 refine d_pure (i := 2) #[true, true, true, false, false, false, false, false] S rfl (p_nilCheck rfl) (wanted_none rfl) rfl rfl (by kernel_rfl) hq125 ?_; clear S a; intro a S
 refine d_read (i := 3) #[true, true, true, true, false, false, false, false] S H rfl (r_load rfl List.mem_cons_self rfl (fun w hc => ld1 ag34 hc)) (wanted_none rfl) rfl rfl (by kernel_rfl) hq125 ?_; clear S a; intro a S
 have hcon := delim_ wb _ B _ H
 refine d_call (i := 4) #[true, true, true, true, true, false, false, false] S rfl rfl rfl Tryz.func107 rfl rfl hcon (wanted_none rfl) rfl rfl (by kernel_rfl) rfl ?_
 rintro e w ⟨gd7, rfl, hH⟩; refine ⟨_, rfl, hH.tail, ?_⟩; clear hcon H; have H := hH; clear hH; clear S a; intro a S
 refine d_ownB (i := 5) [_, _] (xs := ((([] : List Int) ++ [61]) ++ wq.dec (tx.size + 4))) (r := [13, 10]) #[true, true, true, true, true, true, false, false] S H rfl rfl rfl rfl hn6 (src_lit (vs := ([13, 10]).map (Value.int .u8)) H List.mem_cons_self Tryz.underlying34 (by simp [Value.oneCell'])) Tryz.underlying34 in5 rfl (by simp only [List.length_append, List.length_cons, List.length_nil, wq.dec_len, ints_len]; have := wq.nDigits_le (u := (tx.size + 4)) (k := 18) (by omega); omega) (by decide) (wanted_none rfl) rfl rfl (by kernel_rfl) rfl ?_; clear S a H; intro An8 cn8 own8 w a hn8 H S
 replace H := H.tail
 replace H : HH B wb _ ((gb, .cells #[.slice An6 ((([] : List Int) ++ [61]) ++ wq.dec (tx.size + 4)).length cn6] 34 (0, 0)) :: (own8 ++ (po' ++ ((g1, .cells #[.string tx, .string fx] 75 (0, 0)) :: (opt go bp br :: (bs ++ L0)))))) := H
 refine d_pure (i := 6) #[true, true, true, true, true, true, true, false] S rfl (p_nilCheck rfl) (wanted_none rfl) rfl rfl (by kernel_rfl) hq125 ?_; clear S a; intro a S
 refine d_store (i := 7) #[true, true, true, true, true, true, true, true] S H rfl rfl rfl rfl .here (by first | decide | simp [Value.cells]) (fun w u hc hz => st1 sz34 rfl hc hz) (wanted_none rfl) rfl (by kernel_rfl) rfl ?_; clear S a H; intro w a H S
 refine d_done (by kernel_rfl) ?_
 refine e_then ?_
 refine wp_seq ?_
 refine d_start (id := 8) [6, 8] 9 #[false, false, false, false, false, false, false, false, false] H rfl rfl rfl (fun w H => ?_)
 refine d_pure (i := 0) #[true, false, false, false, false, false, false, false, false] S rfl (p_move rfl) (wanted_none rfl) rfl rfl (by kernel_rfl) hq125 ?_; clear S a; intro a S
 refine d_pure (i := 1) #[true, true, false, false, false, false, false, false, false] S rfl (p_move rfl) (wanted_none rfl) rfl rfl (by kernel_rfl) hq125 ?_; clear S a; intro a S
 refine d_pure (i := 2) #[true, true, true, false, false, false, false, false, false] S rfl (p_nilCheck rfl) (wanted_none rfl) rfl rfl (by kernel_rfl) hq125 ?_; clear S a; intro a S
 refine d_read (i := 3) #[true, true, true, true, false, false, false, false, false] S H rfl (r_load rfl List.mem_cons_self rfl (fun w hc => ld1 ag34 hc)) (wanted_none rfl) rfl rfl (by kernel_rfl) hq125 ?_; clear S a; intro a S
 refine d_pure (i := 4) #[true, true, true, true, true, false, false, false, false] S rfl (p_fieldAddr rfl (fun w => fa75_1 w _ _)) (wanted_none rfl) rfl rfl (by kernel_rfl) hq125 ?_; clear S a; intro a S
 refine d_read (i := 5) #[true, true, true, true, true, true, false, false, false] S H rfl (r_load rfl (List.mem_cons_of_mem _ (List.mem_append_right _ (List.mem_append_right _ List.mem_cons_self))) rfl (fun w hc => ld1 ag9 hc)) (wanted_none rfl) rfl rfl (by kernel_rfl) hq125 ?_; clear S a; intro a S
 refine d_ownB (i := 6) [_] (xs := (((([] : List Int) ++ [61]) ++ wq.dec (tx.size + 4)) ++ [13, 10])) (r := (ints fx)) #[true, true, true, true, true, true, true, false, false] S H rfl rfl rfl rfl hn8 (wq.src_str Tryz.underlying9 _) Tryz.underlying34 in5 rfl (by simp only [List.length_append, List.length_cons, List.length_nil, wq.dec_len, ints_len]; have := wq.nDigits_le (u := (tx.size + 4)) (k := 18) (by omega); omega) (by decide) (wanted_none rfl) rfl rfl (by kernel_rfl) rfl ?_; clear S a H; intro An9 cn9 own9 w a hn9 H S
 replace H : HH B wb _ ((gb, .cells #[.slice An8 (((([] : List Int) ++ [61]) ++ wq.dec (tx.size + 4)) ++ [13, 10]).length cn8] 34 (0, 0)) :: (own9 ++ (po' ++ ((g1, .cells #[.string tx, .string fx] 75 (0, 0)) :: (opt go bp br :: (bs ++ L0)))))) := H
 refine d_pure (i := 7) #[true, true, true, true, true, true, true, true, false] S rfl (p_nilCheck rfl) (wanted_none rfl) rfl rfl (by kernel_rfl) hq125 ?_; clear S a; intro a S
 refine d_store (i := 8) #[true, true, true, true, true, true, true, true, true] S H rfl rfl rfl rfl .here (by first | decide | simp [Value.cells]) (fun w u hc hz => st1 sz34 rfl hc hz) (wanted_none rfl) rfl (by kernel_rfl) rfl ?_; clear S a H; intro w a H S
 refine d_done (by kernel_rfl) ?_
 refine e_then ?_
 refine wp_seq ?_
 refine c_region ?_
 refine l_mv 3 S rfl ?_; clear S a; intro a S
 refine l_read S H (r_load rfl List.mem_cons_self rfl (fun w hc => ld1 ag34 hc)) rfl rfl rfl ?_; clear S a; intro a S
 refine l_lit [(.const (.int .u8 58))] S H rfl rfl Tryz.underlying34 sz5 zv5 rfl rfl (by simp [Value.cells]) rfl rfl rfl ?_; clear S a H; intro g10 w a H S
 refine l_ownB [_, _] (l := ((((([] : List Int) ++ [61]) ++ wq.dec (tx.size + 4)) ++ [13, 10]) ++ (ints fx))) (r := [58]) S H rfl rfl rfl hn9 (src_lit (vs := ([58]).map (Value.int .u8)) H List.mem_cons_self Tryz.underlying34 (by simp [Value.oneCell'])) Tryz.underlying34 in5 rfl (by simp only [List.length_append, List.length_cons, List.length_nil, wq.dec_len, ints_len]; have := wq.nDigits_le (u := (tx.size + 4)) (k := 18) (by omega); omega) (by decide) rfl rfl rfl ?_; clear S a H; intro An11 cn11 own11 w a hn11 H S
 replace H := H.tail
 replace H : HH B wb _ ((gb, .cells #[.slice An9 ((((([] : List Int) ++ [61]) ++ wq.dec (tx.size + 4)) ++ [13, 10]) ++ (ints fx)).length cn9] 34 (0, 0)) :: (own11 ++ (po' ++ ((g1, .cells #[.string tx, .string fx] 75 (0, 0)) :: (opt go bp br :: (bs ++ L0)))))) := H
 refine l_mv 1 S rfl ?_; clear S a; intro a S
 refine l_store S H rfl rfl rfl .here (by first | decide | simp [Value.cells]) (fun w u hc hz => st1 sz34 rfl hc hz) rfl rfl ?_; clear S a H; intro w a H S
 refine l_nil ?_
 refine e_then ?_
 refine wp_seq ?_
 refine d_start (id := 10) [6, 8] 9 #[false, false, false, false, false, false, false, false, false] H rfl rfl rfl (fun w H => ?_)
 refine d_pure (i := 0) #[true, false, false, false, false, false, false, false, false] S rfl (p_move rfl) (wanted_none rfl) rfl rfl (by kernel_rfl) hq125 ?_; clear S a; intro a S
 refine d_pure (i := 1) #[true, true, false, false, false, false, false, false, false] S rfl (p_move rfl) (wanted_none rfl) rfl rfl (by kernel_rfl) hq125 ?_; clear S a; intro a S
 refine d_pure (i := 2) #[true, true, true, false, false, false, false, false, false] S rfl (p_nilCheck rfl) (wanted_none rfl) rfl rfl (by kernel_rfl) hq125 ?_; clear S a; intro a S
 refine d_read (i := 3) #[true, true, true, true, false, false, false, false, false] S H rfl (r_load rfl List.mem_cons_self rfl (fun w hc => ld1 ag34 hc)) (wanted_none rfl) rfl rfl (by kernel_rfl) hq125 ?_; clear S a; intro a S
 refine d_pure (i := 4) #[true, true, true, true, true, false, false, false, false] S rfl (p_fieldAddr rfl (fun w => fa75_0 w _ _)) (wanted_none rfl) rfl rfl (by kernel_rfl) hq125 ?_; clear S a; intro a S
 refine d_read (i := 5) #[true, true, true, true, true, true, false, false, false] S H rfl (r_load rfl (List.mem_cons_of_mem _ (List.mem_append_right _ (List.mem_append_right _ List.mem_cons_self))) rfl (fun w hc => ld1 ag9 hc)) (wanted_none rfl) rfl rfl (by kernel_rfl) hq125 ?_; clear S a; intro a S
 refine d_ownB (i := 6) [_] (xs := (((((([] : List Int) ++ [61]) ++ wq.dec (tx.size + 4)) ++ [13, 10]) ++ (ints fx)) ++ [58])) (r := (ints tx)) #[true, true, true, true, true, true, true, false, false] S H rfl rfl rfl rfl hn11 (wq.src_str Tryz.underlying9 _) Tryz.underlying34 in5 rfl (by simp only [List.length_append, List.length_cons, List.length_nil, wq.dec_len, ints_len]; have := wq.nDigits_le (u := (tx.size + 4)) (k := 18) (by omega); omega) (by decide) (wanted_none rfl) rfl rfl (by kernel_rfl) rfl ?_; clear S a H; intro An12 cn12 own12 w a hn12 H S
 replace H : HH B wb _ ((gb, .cells #[.slice An11 (((((([] : List Int) ++ [61]) ++ wq.dec (tx.size + 4)) ++ [13, 10]) ++ (ints fx)) ++ [58]).length cn11] 34 (0, 0)) :: (own12 ++ (po' ++ ((g1, .cells #[.string tx, .string fx] 75 (0, 0)) :: (opt go bp br :: (bs ++ L0)))))) := H
 refine d_pure (i := 7) #[true, true, true, true, true, true, true, true, false] S rfl (p_nilCheck rfl) (wanted_none rfl) rfl rfl (by kernel_rfl) hq125 ?_; clear S a; intro a S
 refine d_store (i := 8) #[true, true, true, true, true, true, true, true, true] S H rfl rfl rfl rfl .here (by first | decide | simp [Value.cells]) (fun w u hc hz => st1 sz34 rfl hc hz) (wanted_none rfl) rfl (by kernel_rfl) rfl ?_; clear S a H; intro w a H S
 refine d_done (by kernel_rfl) ?_
 refine e_then ?_
 refine wp_seq ?_
 refine d_start (id := 11) [5, 7] 8 #[false, false, false, false, false, false, false, false] H rfl rfl rfl (fun w H => ?_)
 refine d_pure (i := 0) #[true, false, false, false, false, false, false, false] S rfl (p_move rfl) (wanted_none rfl) rfl rfl (by kernel_rfl) hq125 ?_; clear S a; intro a S
 refine d_pure (i := 1) #[true, true, false, false, false, false, false, false] S rfl (p_move rfl) (wanted_none rfl) rfl rfl (by kernel_rfl) hq125 ?_; clear S a; intro a S
 refine d_pure (i := 2) #[true, true, true, false, false, false, false, false] S rfl (p_nilCheck rfl) (wanted_none rfl) rfl rfl (by kernel_rfl) hq125 ?_; clear S a; intro a S
 refine d_read (i := 3) #[true, true, true, true, false, false, false, false] S H rfl (r_load rfl List.mem_cons_self rfl (fun w hc => ld1 ag34 hc)) (wanted_none rfl) rfl rfl (by kernel_rfl) hq125 ?_; clear S a; intro a S
 have hcon := delim_ wb _ B _ H
 refine d_call (i := 4) #[true, true, true, true, true, false, false, false] S rfl rfl rfl Tryz.func107 rfl rfl hcon (wanted_none rfl) rfl rfl (by kernel_rfl) rfl ?_
 rintro e w ⟨gd13, rfl, hH⟩; refine ⟨_, rfl, hH.tail, ?_⟩; clear hcon H; have H := hH; clear hH; clear S a; intro a S
 refine d_ownB (i := 5) [_, _] (xs := ((((((([] : List Int) ++ [61]) ++ wq.dec (tx.size + 4)) ++ [13, 10]) ++ (ints fx)) ++ [58]) ++ (ints tx))) (r := [13, 10]) #[true, true, true, true, true, true, false, false] S H rfl rfl rfl rfl hn12 (src_lit (vs := ([13, 10]).map (Value.int .u8)) H List.mem_cons_self Tryz.underlying34 (by simp [Value.oneCell'])) Tryz.underlying34 in5 rfl (by simp only [List.length_append, List.length_cons, List.length_nil, wq.dec_len, ints_len]; have := wq.nDigits_le (u := (tx.size + 4)) (k := 18) (by omega); omega) (by decide) (wanted_none rfl) rfl rfl (by kernel_rfl) rfl ?_; clear S a H; intro An14 cn14 own14 w a hn14 H S
 replace H := H.tail
 replace H : HH B wb _ ((gb, .cells #[.slice An12 ((((((([] : List Int) ++ [61]) ++ wq.dec (tx.size + 4)) ++ [13, 10]) ++ (ints fx)) ++ [58]) ++ (ints tx)).length cn12] 34 (0, 0)) :: (own14 ++ (po' ++ ((g1, .cells #[.string tx, .string fx] 75 (0, 0)) :: (opt go bp br :: (bs ++ L0)))))) := H
 refine d_pure (i := 6) #[true, true, true, true, true, true, true, false] S rfl (p_nilCheck rfl) (wanted_none rfl) rfl rfl (by kernel_rfl) hq125 ?_; clear S a; intro a S
 refine d_store (i := 7) #[true, true, true, true, true, true, true, true] S H rfl rfl rfl rfl .here (by first | decide | simp [Value.cells]) (fun w u hc hz => st1 sz34 rfl hc hz) (wanted_none rfl) rfl (by kernel_rfl) rfl ?_; clear S a H; intro w a H S
 refine d_done (by kernel_rfl) ?_
 refine e_then ?_
 refine wp_seq ?_
 refine d_start (id := 12) [6] 12 #[false, false, false, false, false, false, false, false, false, false, false, false] H rfl rfl rfl (fun w H => ?_)
 refine d_pure (i := 0) #[true, false, false, false, false, false, false, false, false, false, false, false] S rfl (p_move rfl) (wanted_none rfl) rfl rfl (by kernel_rfl) hq125 ?_; clear S a; intro a S
 refine d_pure (i := 1) #[true, true, false, false, false, false, false, false, false, false, false, false] S rfl (p_move rfl) (wanted_none rfl) rfl rfl (by kernel_rfl) hq125 ?_; clear S a; intro a S
 refine d_pure (i := 2) #[true, true, true, false, false, false, false, false, false, false, false, false] S rfl (p_nilCheck rfl) (wanted_none rfl) rfl rfl (by kernel_rfl) hq125 ?_; clear S a; intro a S
 refine d_read (i := 3) #[true, true, true, true, false, false, false, false, false, false, false, false] S H rfl (r_load rfl List.mem_cons_self rfl (fun w hc => ld1 ag34 hc)) (wanted_none rfl) rfl rfl (by kernel_rfl) hq125 ?_; clear S a; intro a S
 refine d_pure (i := 4) #[true, true, true, true, true, false, false, false, false, false, false, false] S rfl (p_nilCheckI rfl) (wanted_none rfl) rfl rfl (by kernel_rfl) hq125 ?_; clear S a; intro a S
 refine d_pure (i := 5) #[true, true, true, true, true, true, false, false, false, false, false, false] S rfl (p_move rfl) (wanted_none rfl) rfl rfl (by kernel_rfl) hq125 ?_; clear S a; intro a S
 obtain ⟨gr, cr, fr, rfl, rfl, hlc, hcr, hth, hrow⟩ := rp.own_open hn14 (by simp only [List.length_append, List.length_cons, List.length_nil]; omega)
 replace H : HH B wb _ ((gb, .cells #[.slice (some ⟨gr, 0, none⟩) (((((((([] : List Int) ++ [61]) ++ wq.dec (tx.size + 4)) ++ [13, 10]) ++ (ints fx)) ++ [58]) ++ (ints tx)) ++ [13, 10]).length cn14] 34 (0, 0)) :: ((gr, .cells cr 5 fr) :: (po' ++ ((g1, .cells #[.string tx, .string fx] 75 (0, 0)) :: (opt go bp br :: (bs ++ L0)))))) := H
 have H2 := HH.front (L1 := ((gb, .cells #[.slice (some ⟨gr, 0, none⟩) (((((((([] : List Int) ++ [61]) ++ wq.dec (tx.size + 4)) ++ [13, 10]) ++ (ints fx)) ++ [58]) ++ (ints tx)) ++ [13, 10]).length cn14] 34 (0, 0)) :: ((gr, .cells cr 5 fr) :: (po' ++ ((g1, .cells #[.string tx, .string fx] 75 (0, 0)) :: [opt go bp br]))))) (S := bs) (L2 := L0) (HH.app H (by simp))
 have hcon := wr.bb.write_ wb _ B (((gb, .cells #[.slice (some ⟨gr, 0, none⟩) (((((((([] : List Int) ++ [61]) ++ wq.dec (tx.size + 4)) ++ [13, 10]) ++ (ints fx)) ++ [58]) ++ (ints tx)) ++ [13, 10]).length cn14] 34 (0, 0)) :: ((gr, .cells cr 5 fr) :: (po' ++ ((g1, .cells #[.string tx, .string fx] 75 (0, 0)) :: [opt go bp br])))) ++ L0) b l bs hz gr 0 cn14 cr fr (((((((([] : List Int) ++ [61]) ++ wq.dec (tx.size + 4)) ++ [13, 10]) ++ (ints fx)) ++ [58]) ++ (ints tx)) ++ [13, 10]) (by simp) hrow (by simp only [List.length_append, List.length_cons, List.length_nil]; omega) H2 (by simp only [List.length_append, List.length_cons, List.length_nil, wq.dec_len, ints_len]; have := wq.nDigits_le (u := (tx.size + 4)) (k := 18) (by omega); omega)
 refine d_invoke_last (i := 6) #[true, true, true, true, true, true, true, false, false, false, false, false] S rfl rfl rfl rfl (meW _ _) Tryz.func157 rfl rfl hcon (wanted_none rfl) rfl rfl (by kernel_rfl) rfl ?_
 rintro e w ⟨rfl, bs2, hz2, hH⟩
 refine ⟨_, rfl, ?_⟩; clear S a; intro a S; clear H H2 hcon
 have H : HH B wb w ((gb, .cells #[.slice (some ⟨gr, 0, none⟩) (((((((([] : List Int) ++ [61]) ++ wq.dec (tx.size + 4)) ++ [13, 10]) ++ (ints fx)) ++ [58]) ++ (ints tx)) ++ [13, 10]).length cn14] 34 (0, 0)) :: ((gr, .cells cr 5 fr) :: (po' ++ ((g1, .cells #[.string tx, .string fx] 75 (0, 0)) :: (opt go bp br :: (bs2 ++ L0)))))) := HH.app (HH.front (L1 := bs2) (S := ((gb, .cells #[.slice (some ⟨gr, 0, none⟩) (((((((([] : List Int) ++ [61]) ++ wq.dec (tx.size + 4)) ++ [13, 10]) ++ (ints fx)) ++ [58]) ++ (ints tx)) ++ [13, 10]).length cn14] 34 (0, 0)) :: ((gr, .cells cr 5 fr) :: (po' ++ ((g1, .cells #[.string tx, .string fx] 75 (0, 0)) :: [opt go bp br]))))) (L2 := L0) hH) (by simp)
 clear hH
 refine d_pure (i := 7) #[true, true, true, true, true, true, true, true, false, false, false, false] S rfl (p_move rfl) (wanted_none rfl) rfl rfl (by kernel_rfl) hq125 ?_; clear S a; intro a S
 refine d_pure (i := 8) #[true, true, true, true, true, true, true, true, true, false, false, false] S rfl (p_extract rfl rfl) (wanted_none rfl) rfl rfl (by kernel_rfl) hq125 ?_; clear S a; intro a S
 refine d_pure (i := 9) #[true, true, true, true, true, true, true, true, true, true, false, false] S rfl (p_extract rfl rfl) (wanted_none rfl) rfl rfl (by kernel_rfl) hq125 ?_; clear S a; intro a S
 refine d_pure (i := 10) #[true, true, true, true, true, true, true, true, true, true, true, false] S rfl (p_assign rfl) (wanted_none rfl) rfl rfl (by kernel_rfl) hq125 ?_; clear S a; intro a S
 refine d_pure (i := 11) #[true, true, true, true, true, true, true, true, true, true, true, true] S rfl (p_assign rfl) (wanted_none rfl) rfl rfl (by kernel_rfl) hq125 ?_; clear S a; intro a S
 refine d_done (by kernel_rfl) ?_
 refine e_then ?_
 refine wp_seq ?_
 refine c_region ?_
 refine l_mv 2 S rfl ?_; clear S a; intro a S
 refine l_nil ?_
 refine e_then ?_
 refine wp_ret ?_
 refine r_doorA S (wr.pl.put_ wb _ B ((g1, .cells #[.string tx, .string fx] 75 (0, 0)) :: (opt go bp br :: (bs2 ++ L0))) bp gb cn14 (some ⟨gr, 0, none⟩) (((((((([] : List Int) ++ [61]) ++ wq.dec (tx.size + 4)) ++ [13, 10]) ++ (ints fx)) ++ [58]) ++ (ints tx)) ++ [13, 10]) po' [(gr, .cells cr 5 fr)] hp' hn14 H) (invokesA (vs := [.pointer (some ⟨bp, 0, none⟩), .pointer (some ⟨gb, 0, none⟩)]) (caps := []) Tryz.func24 rfl rfl) (fun w' _ => res_t1 rfl rfl) ?_
 rintro w' ⟨po2, hp2, hH⟩
 have H3 := HH.front (L1 := po2) (S := ((g1, .cells #[.string tx, .string fx] 75 (0, 0)) :: [opt go bp br])) (L2 := bs2 ++ L0) (HH.app hH (by simp))
 exact ⟨rfl, _, ⟨br, po2, bs2, hp2, by simpa [mw.bl] using hz2, rfl⟩, HH.app (L := (opt go bp br :: (po2 ++ (bs2 ++ L0)))) (L' := (opt go bp br :: (po2 ++ bs2)) ++ L0) (HH.app (L' := ((g1, .cells #[.string tx, .string fx] 75 (0, 0)) :: (opt go bp br :: (po2 ++ (bs2 ++ L0))))) H3 (by simp)).tail (by simp)⟩
set_option maxHeartbeats 1000000 in
theorem vsb_ (wb w0 : World) (B : Nat) (L0 : dc.Bk) (go bp b : Nat) (l : List Int) (ls : List (Nat × Obj)) (hE : Env go bp b l ls) (ht : Lib.TabBelow Tryz.prog B wb "internal/strconv.uint64pow10" .u64 Lib.pow10Tab) (hT : fz.PTab 3 B wb) (H : HH B wb w0 (ls ++ L0)) (hl : l.length ≤ 10000000) (Ax : Option Addr) (cx : Nat) (x : List Int) (ox : List (Nat × Obj)) (hox : OwnB 5 (.slice Ax x.length cx) x ox) (hsx : ∀ p ∈ ox, p ∈ L0) (hx : x.length ≤ 10000000) (Ay : Option Addr) (cy : Nat) (y : List Int) (oy : List (Nat × Obj)) (hoy : OwnB 5 (.slice Ay y.length cy) y oy) (hsy : ∀ p ∈ oy, p ∈ L0) (hy : y.length = 3) : Calls Tryz.prog 123 #[.agg #[.slice Ax x.length cx, .slice Ay y.length cy], .iface 46 (.pointer (some ⟨b, 0, none⟩)), .pointer (some ⟨go, 0, none⟩)] w0 fun e w' => e = .returned .nilIface ∧ ∃ ls', Env go bp b (l ++ (mw.bl 61 (x.length + 4) (y ++ [58] ++ x))) ls' ∧ HH B wb w' (ls' ++ L0) := by
 obtain ⟨br, po, bs, hp, hz, rfl⟩ := hE
 replace H : HH B wb w0 (opt go bp br :: (po ++ (bs ++ L0))) := HH.app H (by simp)
 refine c_enter_d (args := [.agg #[.slice Ax x.length cx, .slice Ay y.length cy], .iface 46 (.pointer (some ⟨b, 0, none⟩)), .pointer (some ⟨go, 0, none⟩)]) (k := 89) Tryz.func123 rfl rfl rfl (fun a S => ?_)
 refine wp_seq ?_
 refine c_region ?_
 refine l_box (cs := #[.slice Ax x.length cx, .slice Ay y.length cy]) S H rfl rfl (fun w => bx) rfl rfl rfl ?_; clear S a H; intro g1 w a H S
 refine l_mv 1 S rfl ?_; clear S a; intro a S
 refine l_nil ?_
 refine e_then ?_
 refine wp_seq ?_
 refine wp_seq ?_
 refine c_region ?_
 refine l_pure S (p_fieldAddr rfl (fun w => fa73_1 w _ _)) rfl rfl rfl ?_; clear S a; intro a S
 refine l_read S H (r_load rfl List.mem_cons_self rfl (fun w hc => ld1 ag34 hc)) rfl rfl rfl ?_; clear S a; intro a S
 refine l_pure S (p_len Tryz.underlying34 rfl) rfl rfl rfl ?_; clear S a; intro a S
 refine l_pure S (p_neq rfl rfl) rfl rfl rfl ?_; clear S a; intro a S
 refine l_nil ?_
 refine e_then ?_
 refine c_cond S rfl (fun c3 => by have c3 := bne_iff_ne.1 c3; exfalso; omega) (fun c3 => ?_)
 have c3 := bne_eq_false_iff_eq.1 c3
 refine wp_skip ?_
 refine e_then ?_
 refine wp_seq ?_
 refine c_region ?_
 refine l_mv 2 S rfl ?_; clear S a; intro a S
 refine l_pure S (p_fieldAddr rfl (fun w => fa102_0 w _ _)) rfl rfl rfl ?_; clear S a; intro a S
 refine l_read S H (r_load rfl (List.mem_cons_of_mem _ List.mem_cons_self) rfl (fun w hc => ld1 ag84 hc)) rfl rfl rfl ?_; clear S a; intro a S
 replace H : HH B wb _ ((g1, .cells #[.slice Ax x.length cx, .slice Ay y.length cy] 73 (0, 0)) :: (opt go bp br :: (po ++ (bs ++ L0)))) := H
 replace H : HH B wb _ (po ++ ((g1, .cells #[.slice Ax x.length cx, .slice Ay y.length cy] 73 (0, 0)) :: (opt go bp br :: (bs ++ L0)))) := HH.app (HH.front (L1 := ((g1, .cells #[.slice Ax x.length cx, .slice Ay y.length cy] 73 (0, 0)) :: [opt go bp br])) (S := po) (L2 := (bs ++ L0)) (HH.app H (by simp))) (by simp)
 have hcon := wr.pl.get_ wb _ B ((g1, .cells #[.slice Ax x.length cx, .slice Ay y.length cy] 73 (0, 0)) :: (opt go bp br :: (bs ++ L0))) bp po hp H
 refine l_callv (us := [.pointer (some ⟨bp, 0, none⟩)]) (cs := []) S rfl rfl rfl Tryz.func23 rfl rfl hcon rfl rfl rfl ?_
 rintro e w ⟨po', hp', gb, A0, c0, ow0, rfl, hown0, hH⟩
 refine ⟨_, rfl, ?_⟩; clear S a; intro a S; clear H hcon; have H := hH; clear hH
 refine l_mv 1 S rfl ?_; clear S a; intro a S
 refine l_nil ?_
 refine e_then ?_
 refine wp_seq ?_
 refine c_region ?_
 refine l_mv 2 S rfl ?_; clear S a; intro a S
 refine l_pure S (p_fieldAddr rfl (fun w => fa102_1 w _ _)) rfl rfl rfl ?_; clear S a; intro a S
 refine l_read S H (r_load rfl (List.mem_cons_of_mem _ (List.mem_append_right _ (List.mem_append_right _ (List.mem_cons_of_mem _ List.mem_cons_self)))) rfl (fun w hc => ld1 ag85 hc)) rfl rfl rfl ?_; clear S a; intro a S
 refine l_mv 1 S rfl ?_; clear S a; intro a S
 refine l_defer (xs := [.tmp 26]) (us := [.pointer (some ⟨bp, 0, none⟩)]) (cs := []) (vs := [.pointer (some ⟨gb, 0, none⟩)]) S rfl rfl rfl rfl rfl ?_; clear S a; intro a S
 refine l_nil ?_
 refine e_then ?_
 refine wp_seq ?_
 refine c_region ?_
 refine l_mv 3 S rfl ?_; clear S a; intro a S
 refine l_read S H (r_load rfl List.mem_cons_self rfl (fun w hc => ld1 ag34 hc)) rfl rfl rfl ?_; clear S a; intro a S
 refine l_lit [(.const (.int .u8 61))] S H rfl rfl Tryz.underlying34 sz5 zv5 rfl rfl (by simp [Value.cells]) rfl rfl rfl ?_; clear S a H; intro g4 w a H S
 refine l_ownB [_, _] (l := ([] : List Int)) (r := [61]) S H rfl rfl rfl hown0 (src_lit (vs := ([61]).map (Value.int .u8)) H List.mem_cons_self Tryz.underlying34 (by simp [Value.oneCell'])) Tryz.underlying34 in5 rfl (by simp only [List.length_append, List.length_cons, List.length_nil, wq.dec_len, ints_len]; have := wq.nDigits_le (u := (x.length + 4)) (k := 18) (by omega); omega) (by decide) rfl rfl rfl ?_; clear S a H; intro An5 cn5 own5 w a hn5 H S
 replace H := H.tail
 replace H : HH B wb _ ((gb, .cells #[.slice A0 ([] : List Int).length c0] 34 (0, 0)) :: (own5 ++ (po' ++ ((g1, .cells #[.slice Ax x.length cx, .slice Ay y.length cy] 73 (0, 0)) :: (opt go bp br :: (bs ++ L0)))))) := H
 refine l_mv 1 S rfl ?_; clear S a; intro a S
 refine l_store S H rfl rfl rfl .here (by first | decide | simp [Value.cells]) (fun w u hc hz => st1 sz34 rfl hc hz) rfl rfl ?_; clear S a H; intro w a H S
 refine l_nil ?_
 refine e_then ?_
 refine wp_seq ?_
 refine d_start (id := 6) [8, 10] 11 #[false, false, false, false, false, false, false, false, false, false, false] H rfl rfl rfl (fun w H => ?_)
 refine d_pure (i := 0) #[true, false, false, false, false, false, false, false, false, false, false] S rfl (p_move rfl) (wanted_none rfl) rfl rfl (by kernel_rfl) hq123 ?_; clear S a; intro a S
 refine d_pure (i := 1) #[true, true, false, false, false, false, false, false, false, false, false] S rfl (p_move rfl) (wanted_none rfl) rfl rfl (by kernel_rfl) hq123 ?_; clear S a; intro a S
 refine d_pure (i := 2) #[true, true, true, false, false, false, false, false, false, false, false] S rfl (p_nilCheck rfl) (wanted_none rfl) rfl rfl (by kernel_rfl) hq123 ?_; clear S a; intro a S
 refine d_read (i := 3) #[true, true, true, true, false, false, false, false, false, false, false] S H rfl (r_load rfl List.mem_cons_self rfl (fun w hc => ld1 ag34 hc)) (wanted_none rfl) rfl rfl (by kernel_rfl) hq123 ?_; clear S a; intro a S
 refine d_pure (i := 4) #[true, true, true, true, true, false, false, false, false, false, false] S rfl (p_fieldAddr rfl (fun w => fa73_0 w _ _)) (wanted_none rfl) rfl rfl (by kernel_rfl) hq123 ?_; clear S a; intro a S
 refine d_read (i := 5) #[true, true, true, true, true, true, false, false, false, false, false] S H rfl (r_load rfl (List.mem_cons_of_mem _ (List.mem_append_right _ (List.mem_append_right _ List.mem_cons_self))) rfl (fun w hc => ld1 ag34 hc)) (wanted_none rfl) rfl rfl (by kernel_rfl) hq123 ?_; clear S a; intro a S
 refine d_pure (i := 6) #[true, true, true, true, true, true, true, false, false, false, false] S rfl (p_len Tryz.underlying34 rfl) (wanted_none rfl) rfl rfl (by kernel_rfl) hq123 ?_; clear S a; intro a S
 refine d_pure (i := 7) #[true, true, true, true, true, true, true, true, false, false, false] S rfl (p_add rfl rfl (nat_add (x := x.length) (y := 4) (by omega))) (wanted_none rfl) rfl rfl (by kernel_rfl) hq123 ?_; clear S a; intro a S
 have hcon := nm.appI_ wb _ B ((gb, .cells #[.slice An5 (([] : List Int) ++ [61]).length cn5] 34 (0, 0)) :: (po' ++ ((g1, .cells #[.slice Ax x.length cx, .slice Ay y.length cy] 73 (0, 0)) :: (opt go bp br :: (bs ++ L0))))) ht hT An5 cn5 (((x.length + 4) : Nat) : Int) (([] : List Int) ++ [61]) own5 hn5 H.mid (by have := wq.nDigits_le (u := (x.length + 4)) (k := 18) (by omega); omega) (by simp only [List.length_append, List.length_cons, List.length_nil, wq.dec_len, ints_len]; have := wq.nDigits_le (u := (x.length + 4)) (k := 18) (by omega); omega)
 refine d_call_last (i := 8) #[true, true, true, true, true, true, true, true, true, false, false] S rfl rfl rfl Tryz.func106 rfl rfl hcon (wanted_none rfl) rfl rfl (by kernel_rfl) rfl ?_
 rintro e w ⟨An6, cn6, own6, rfl, hn6, hH⟩
 refine ⟨_, rfl, ?_⟩; clear S a; intro a S; clear H hcon; have H := hH.unmid; clear hH
 rw [mw.sdec_nat] at S hn6
 refine d_pure (i := 9) #[true, true, true, true, true, true, true, true, true, true, false] S rfl (p_nilCheck rfl) (wanted_none rfl) rfl rfl (by kernel_rfl) hq123 ?_; clear S a; intro a S
 refine d_store (i := 10) #[true, true, true, true, true, true, true, true, true, true, true] S H rfl rfl rfl rfl .here (by first | decide | simp [Value.cells]) (fun w u hc hz => st1 sz34 rfl hc hz) (wanted_none rfl) rfl (by kernel_rfl) rfl ?_; clear S a H; intro w a H S
 refine d_done (by kernel_rfl) ?_
 refine e_then ?_
 refine wp_seq ?_
 refine d_start (id := 7) [5, 7] 8 #[false, false, false, false, false, false, false, false] H rfl rfl rfl (fun w H => ?_)
 refine d_pure (i := 0) #[true, false, false, false, false, false, false, false] S rfl (p_move rfl) (wanted_none rfl) rfl rfl (by kernel_rfl) hq123 ?_; clear S a; intro a S
 refine d_pure (i := 1) #[true, true, false, false, false, false, false, false] S rfl (p_move rfl) (wanted_none rfl) rfl rfl (by kernel_rfl) hq123 ?_; clear S a; intro a S
 refine d_pure (i := 2) #[true, true, true, false, false, false, false, false] S rfl (p_nilCheck rfl) (wanted_none rfl) rfl rfl (by kernel_rfl) hq123 ?_; clear S a; intro a S
 refine d_read (i := 3) #[true, true, true, true, false, false, false, false] S H rfl (r_load rfl List.mem_cons_self rfl (fun w hc => ld1 ag34 hc)) (wanted_none rfl) rfl rfl (by kernel_rfl) hq123 ?_; clear S a; intro a S
 have hcon := delim_ wb _ B _ H
 refine d_call (i := 4) #[true, true, true, true, true, false, false, false] S rfl rfl rfl Tryz.func107 rfl rfl hcon (wanted_none rfl) rfl rfl (by kernel_rfl) rfl ?_
 rintro e w ⟨gd7, rfl, hH⟩; refine ⟨_, rfl, hH.tail, ?_⟩; clear hcon H; have H := hH; clear hH; clear S a; intro a S
 refine d_ownB (i := 5) [_, _] (xs := ((([] : List Int) ++ [61]) ++ wq.dec (x.length + 4))) (r := [13, 10]) #[true, true, true, true, true, true, false, false] S H rfl rfl rfl rfl hn6 (src_lit (vs := ([13, 10]).map (Value.int .u8)) H List.mem_cons_self Tryz.underlying34 (by simp [Value.oneCell'])) Tryz.underlying34 in5 rfl (by simp only [List.length_append, List.length_cons, List.length_nil, wq.dec_len, ints_len]; have := wq.nDigits_le (u := (x.length + 4)) (k := 18) (by omega); omega) (by decide) (wanted_none rfl) rfl rfl (by kernel_rfl) rfl ?_; clear S a H; intro An8 cn8 own8 w a hn8 H S
 replace H := H.tail
 replace H : HH B wb _ ((gb, .cells #[.slice An6 ((([] : List Int) ++ [61]) ++ wq.dec (x.length + 4)).length cn6] 34 (0, 0)) :: (own8 ++ (po' ++ ((g1, .cells #[.slice Ax x.length cx, .slice Ay y.length cy] 73 (0, 0)) :: (opt go bp br :: (bs ++ L0)))))) := H
 refine d_pure (i := 6) #[true, true, true, true, true, true, true, false] S rfl (p_nilCheck rfl) (wanted_none rfl) rfl rfl (by kernel_rfl) hq123 ?_; clear S a; intro a S
 refine d_store (i := 7) #[true, true, true, true, true, true, true, true] S H rfl rfl rfl rfl .here (by first | decide | simp [Value.cells]) (fun w u hc hz => st1 sz34 rfl hc hz) (wanted_none rfl) rfl (by kernel_rfl) rfl ?_; clear S a H; intro w a H S
 refine d_done (by kernel_rfl) ?_
 refine e_then ?_
 refine wp_seq ?_
 refine d_start (id := 8) [6, 8] 9 #[false, false, false, false, false, false, false, false, false] H rfl rfl rfl (fun w H => ?_)
 refine d_pure (i := 0) #[true, false, false, false, false, false, false, false, false] S rfl (p_move rfl) (wanted_none rfl) rfl rfl (by kernel_rfl) hq123 ?_; clear S a; intro a S
 refine d_pure (i := 1) #[true, true, false, false, false, false, false, false, false] S rfl (p_move rfl) (wanted_none rfl) rfl rfl (by kernel_rfl) hq123 ?_; clear S a; intro a S
 refine d_pure (i := 2) #[true, true, true, false, false, false, false, false, false] S rfl (p_nilCheck rfl) (wanted_none rfl) rfl rfl (by kernel_rfl) hq123 ?_; clear S a; intro a S
 refine d_read (i := 3) #[true, true, true, true, false, false, false, false, false] S H rfl (r_load rfl List.mem_cons_self rfl (fun w hc => ld1 ag34 hc)) (wanted_none rfl) rfl rfl (by kernel_rfl) hq123 ?_; clear S a; intro a S
 refine d_pure (i := 4) #[true, true, true, true, true, false, false, false, false] S rfl (p_fieldAddr rfl (fun w => fa73_1 w _ _)) (wanted_none rfl) rfl rfl (by kernel_rfl) hq123 ?_; clear S a; intro a S
 refine d_read (i := 5) #[true, true, true, true, true, true, false, false, false] S H rfl (r_load rfl (List.mem_cons_of_mem _ (List.mem_append_right _ (List.mem_append_right _ List.mem_cons_self))) rfl (fun w hc => ld1 ag34 hc)) (wanted_none rfl) rfl rfl (by kernel_rfl) hq123 ?_; clear S a; intro a S
 refine d_ownB (i := 6) [_] (xs := (((([] : List Int) ++ [61]) ++ wq.dec (x.length + 4)) ++ [13, 10])) (r := y) #[true, true, true, true, true, true, true, false, false] S H rfl rfl rfl rfl hn8 (mw.own_src hoy (fun p hp => by have := hsy p hp; simp [this]) H Tryz.underlying34) Tryz.underlying34 in5 rfl (by simp only [List.length_append, List.length_cons, List.length_nil, wq.dec_len, ints_len]; have := wq.nDigits_le (u := (x.length + 4)) (k := 18) (by omega); omega) (by decide) (wanted_none rfl) rfl rfl (by kernel_rfl) rfl ?_; clear S a H; intro An9 cn9 own9 w a hn9 H S
 replace H : HH B wb _ ((gb, .cells #[.slice An8 (((([] : List Int) ++ [61]) ++ wq.dec (x.length + 4)) ++ [13, 10]).length cn8] 34 (0, 0)) :: (own9 ++ (po' ++ ((g1, .cells #[.slice Ax x.length cx, .slice Ay y.length cy] 73 (0, 0)) :: (opt go bp br :: (bs ++ L0)))))) := H
 refine d_pure (i := 7) #[true, true, true, true, true, true, true, true, false] S rfl (p_nilCheck rfl) (wanted_none rfl) rfl rfl (by kernel_rfl) hq123 ?_; clear S a; intro a S
 refine d_store (i := 8) #[true, true, true, true, true, true, true, true, true] S H rfl rfl rfl rfl .here (by first | decide | simp [Value.cells]) (fun w u hc hz => st1 sz34 rfl hc hz) (wanted_none rfl) rfl (by kernel_rfl) rfl ?_; clear S a H; intro w a H S
 refine d_done (by kernel_rfl) ?_
 refine e_then ?_
 refine wp_seq ?_
 refine c_region ?_
 refine l_mv 3 S rfl ?_; clear S a; intro a S
 refine l_read S H (r_load rfl List.mem_cons_self rfl (fun w hc => ld1 ag34 hc)) rfl rfl rfl ?_; clear S a; intro a S
 refine l_lit [(.const (.int .u8 58))] S H rfl rfl Tryz.underlying34 sz5 zv5 rfl rfl (by simp [Value.cells]) rfl rfl rfl ?_; clear S a H; intro g10 w a H S
 refine l_ownB [_, _] (l := ((((([] : List Int) ++ [61]) ++ wq.dec (x.length + 4)) ++ [13, 10]) ++ y)) (r := [58]) S H rfl rfl rfl hn9 (src_lit (vs := ([58]).map (Value.int .u8)) H List.mem_cons_self Tryz.underlying34 (by simp [Value.oneCell'])) Tryz.underlying34 in5 rfl (by simp only [List.length_append, List.length_cons, List.length_nil, wq.dec_len, ints_len]; have := wq.nDigits_le (u := (x.length + 4)) (k := 18) (by omega); omega) (by decide) rfl rfl rfl ?_; clear S a H; intro An11 cn11 own11 w a hn11 H S
 replace H := H.tail
 replace H : HH B wb _ ((gb, .cells #[.slice An9 ((((([] : List Int) ++ [61]) ++ wq.dec (x.length + 4)) ++ [13, 10]) ++ y).length cn9] 34 (0, 0)) :: (own11 ++ (po' ++ ((g1, .cells #[.slice Ax x.length cx, .slice Ay y.length cy] 73 (0, 0)) :: (opt go bp br :: (bs ++ L0)))))) := H
 refine l_mv 1 S rfl ?_; clear S a; intro a S
 refine l_store S H rfl rfl rfl .here (by first | decide | simp [Value.cells]) (fun w u hc hz => st1 sz34 rfl hc hz) rfl rfl ?_; clear S a H; intro w a H S
 refine l_nil ?_
 refine e_then ?_
 refine wp_seq ?_
 refine d_start (id := 10) [6, 8] 9 #[false, false, false, false, false, false, false, false, false] H rfl rfl rfl (fun w H => ?_)
 refine d_pure (i := 0) #[true, false, false, false, false, false, false, false, false] S rfl (p_move rfl) (wanted_none rfl) rfl rfl (by kernel_rfl) hq123 ?_; clear S a; intro a S
 refine d_pure (i := 1) #[true, true, false, false, false, false, false, false, false] S rfl (p_move rfl) (wanted_none rfl) rfl rfl (by kernel_rfl) hq123 ?_; clear S a; intro a S
 refine d_pure (i := 2) #[true, true, true, false, false, false, false, false, false] S rfl (p_nilCheck rfl) (wanted_none rfl) rfl rfl (by kernel_rfl) hq123 ?_; clear S a; intro a S
 refine d_read (i := 3) #[true, true, true, true, false, false, false, false, false] S H rfl (r_load rfl List.mem_cons_self rfl (fun w hc => ld1 ag34 hc)) (wanted_none rfl) rfl rfl (by kernel_rfl) hq123 ?_; clear S a; intro a S
 refine d_pure (i := 4) #[true, true, true, true, true, false, false, false, false] S rfl (p_fieldAddr rfl (fun w => fa73_0 w _ _)) (wanted_none rfl) rfl rfl (by kernel_rfl) hq123 ?_; clear S a; intro a S
 refine d_read (i := 5) #[true, true, true, true, true, true, false, false, false] S H rfl (r_load rfl (List.mem_cons_of_mem _ (List.mem_append_right _ (List.mem_append_right _ List.mem_cons_self))) rfl (fun w hc => ld1 ag34 hc)) (wanted_none rfl) rfl rfl (by kernel_rfl) hq123 ?_; clear S a; intro a S
 refine d_ownB (i := 6) [_] (xs := (((((([] : List Int) ++ [61]) ++ wq.dec (x.length + 4)) ++ [13, 10]) ++ y) ++ [58])) (r := x) #[true, true, true, true, true, true, true, false, false] S H rfl rfl rfl rfl hn11 (mw.own_src hox (fun p hp => by have := hsx p hp; simp [this]) H Tryz.underlying34) Tryz.underlying34 in5 rfl (by simp only [List.length_append, List.length_cons, List.length_nil, wq.dec_len, ints_len]; have := wq.nDigits_le (u := (x.length + 4)) (k := 18) (by omega); omega) (by decide) (wanted_none rfl) rfl rfl (by kernel_rfl) rfl ?_; clear S a H; intro An12 cn12 own12 w a hn12 H S
 replace H : HH B wb _ ((gb, .cells #[.slice An11 (((((([] : List Int) ++ [61]) ++ wq.dec (x.length + 4)) ++ [13, 10]) ++ y) ++ [58]).length cn11] 34 (0, 0)) :: (own12 ++ (po' ++ ((g1, .cells #[.slice Ax x.length cx, .slice Ay y.length cy] 73 (0, 0)) :: (opt go bp br :: (bs ++ L0)))))) := H
 refine d_pure (i := 7) #[true, true, true, true, true, true, true, true, false] S rfl (p_nilCheck rfl) (wanted_none rfl) rfl rfl (by kernel_rfl) hq123 ?_; clear S a; intro a S
 refine d_store (i := 8) #[true, true, true, true, true, true, true, true, true] S H rfl rfl rfl rfl .here (by first | decide | simp [Value.cells]) (fun w u hc hz => st1 sz34 rfl hc hz) (wanted_none rfl) rfl (by kernel_rfl) rfl ?_; clear S a H; intro w a H S
 refine d_done (by kernel_rfl) ?_
 refine e_then ?_
 refine wp_seq ?_
 refine d_start (id := 11) [5, 7] 8 #[false, false, false, false, false, false, false, false] H rfl rfl rfl (fun w H => ?_)
 refine d_pure (i := 0) #[true, false, false, false, false, false, false, false] S rfl (p_move rfl) (wanted_none rfl) rfl rfl (by kernel_rfl) hq123 ?_; clear S a; intro a S
 refine d_pure (i := 1) #[true, true, false, false, false, false, false, false] S rfl (p_move rfl) (wanted_none rfl) rfl rfl (by kernel_rfl) hq123 ?_; clear S a; intro a S
 refine d_pure (i := 2) #[true, true, true, false, false, false, false, false] S rfl (p_nilCheck rfl) (wanted_none rfl) rfl rfl (by kernel_rfl) hq123 ?_; clear S a; intro a S
 refine d_read (i := 3) #[true, true, true, true, false, false, false, false] S H rfl (r_load rfl List.mem_cons_self rfl (fun w hc => ld1 ag34 hc)) (wanted_none rfl) rfl rfl (by kernel_rfl) hq123 ?_; clear S a; intro a S
 have hcon := delim_ wb _ B _ H
 refine d_call (i := 4) #[true, true, true, true, true, false, false, false] S rfl rfl rfl Tryz.func107 rfl rfl hcon (wanted_none rfl) rfl rfl (by kernel_rfl) rfl ?_
 rintro e w ⟨gd13, rfl, hH⟩; refine ⟨_, rfl, hH.tail, ?_⟩; clear hcon H; have H := hH; clear hH; clear S a; intro a S
 refine d_ownB (i := 5) [_, _] (xs := ((((((([] : List Int) ++ [61]) ++ wq.dec (x.length + 4)) ++ [13, 10]) ++ y) ++ [58]) ++ x)) (r := [13, 10]) #[true, true, true, true, true, true, false, false] S H rfl rfl rfl rfl hn12 (src_lit (vs := ([13, 10]).map (Value.int .u8)) H List.mem_cons_self Tryz.underlying34 (by simp [Value.oneCell'])) Tryz.underlying34 in5 rfl (by simp only [List.length_append, List.length_cons, List.length_nil, wq.dec_len, ints_len]; have := wq.nDigits_le (u := (x.length + 4)) (k := 18) (by omega); omega) (by decide) (wanted_none rfl) rfl rfl (by kernel_rfl) rfl ?_; clear S a H; intro An14 cn14 own14 w a hn14 H S
 replace H := H.tail
 replace H : HH B wb _ ((gb, .cells #[.slice An12 ((((((([] : List Int) ++ [61]) ++ wq.dec (x.length + 4)) ++ [13, 10]) ++ y) ++ [58]) ++ x).length cn12] 34 (0, 0)) :: (own14 ++ (po' ++ ((g1, .cells #[.slice Ax x.length cx, .slice Ay y.length cy] 73 (0, 0)) :: (opt go bp br :: (bs ++ L0)))))) := H
 refine d_pure (i := 6) #[true, true, true, true, true, true, true, false] S rfl (p_nilCheck rfl) (wanted_none rfl) rfl rfl (by kernel_rfl) hq123 ?_; clear S a; intro a S
 refine d_store (i := 7) #[true, true, true, true, true, true, true, true] S H rfl rfl rfl rfl .here (by first | decide | simp [Value.cells]) (fun w u hc hz => st1 sz34 rfl hc hz) (wanted_none rfl) rfl (by kernel_rfl) rfl ?_; clear S a H; intro w a H S
 refine d_done (by kernel_rfl) ?_
 refine e_then ?_
 refine wp_seq ?_
 refine d_start (id := 12) [6] 12 #[false, false, false, false, false, false, false, false, false, false, false, false] H rfl rfl rfl (fun w H => ?_)
 refine d_pure (i := 0) #[true, false, false, false, false, false, false, false, false, false, false, false] S rfl (p_move rfl) (wanted_none rfl) rfl rfl (by kernel_rfl) hq123 ?_; clear S a; intro a S
 refine d_pure (i := 1) #[true, true, false, false, false, false, false, false, false, false, false, false] S rfl (p_move rfl) (wanted_none rfl) rfl rfl (by kernel_rfl) hq123 ?_; clear S a; intro a S
 refine d_pure (i := 2) #[true, true, true, false, false, false, false, false, false, false, false, false] S rfl (p_nilCheck rfl) (wanted_none rfl) rfl rfl (by kernel_rfl) hq123 ?_; clear S a; intro a S
 refine d_read (i := 3) #[true, true, true, true, false, false, false, false, false, false, false, false] S H rfl (r_load rfl List.mem_cons_self rfl (fun w hc => ld1 ag34 hc)) (wanted_none rfl) rfl rfl (by kernel_rfl) hq123 ?_; clear S a; intro a S
 refine d_pure (i := 4) #[true, true, true, true, true, false, false, false, false, false, false, false] S rfl (p_nilCheckI rfl) (wanted_none rfl) rfl rfl (by kernel_rfl) hq123 ?_; clear S a; intro a S
 refine d_pure (i := 5) #[true, true, true, true, true, true, false, false, false, false, false, false] S rfl (p_move rfl) (wanted_none rfl) rfl rfl (by kernel_rfl) hq123 ?_; clear S a; intro a S
 obtain ⟨gr, cr, fr, rfl, rfl, hlc, hcr, hth, hrow⟩ := rp.own_open hn14 (by simp only [List.length_append, List.length_cons, List.length_nil]; omega)
 replace H : HH B wb _ ((gb, .cells #[.slice (some ⟨gr, 0, none⟩) (((((((([] : List Int) ++ [61]) ++ wq.dec (x.length + 4)) ++ [13, 10]) ++ y) ++ [58]) ++ x) ++ [13, 10]).length cn14] 34 (0, 0)) :: ((gr, .cells cr 5 fr) :: (po' ++ ((g1, .cells #[.slice Ax x.length cx, .slice Ay y.length cy] 73 (0, 0)) :: (opt go bp br :: (bs ++ L0)))))) := H
 have H2 := HH.front (L1 := ((gb, .cells #[.slice (some ⟨gr, 0, none⟩) (((((((([] : List Int) ++ [61]) ++ wq.dec (x.length + 4)) ++ [13, 10]) ++ y) ++ [58]) ++ x) ++ [13, 10]).length cn14] 34 (0, 0)) :: ((gr, .cells cr 5 fr) :: (po' ++ ((g1, .cells #[.slice Ax x.length cx, .slice Ay y.length cy] 73 (0, 0)) :: [opt go bp br]))))) (S := bs) (L2 := L0) (HH.app H (by simp))
 have hcon := wr.bb.write_ wb _ B (((gb, .cells #[.slice (some ⟨gr, 0, none⟩) (((((((([] : List Int) ++ [61]) ++ wq.dec (x.length + 4)) ++ [13, 10]) ++ y) ++ [58]) ++ x) ++ [13, 10]).length cn14] 34 (0, 0)) :: ((gr, .cells cr 5 fr) :: (po' ++ ((g1, .cells #[.slice Ax x.length cx, .slice Ay y.length cy] 73 (0, 0)) :: [opt go bp br])))) ++ L0) b l bs hz gr 0 cn14 cr fr (((((((([] : List Int) ++ [61]) ++ wq.dec (x.length + 4)) ++ [13, 10]) ++ y) ++ [58]) ++ x) ++ [13, 10]) (by simp) hrow (by simp only [List.length_append, List.length_cons, List.length_nil]; omega) H2 (by simp only [List.length_append, List.length_cons, List.length_nil, wq.dec_len, ints_len]; have := wq.nDigits_le (u := (x.length + 4)) (k := 18) (by omega); omega)
 refine d_invoke_last (i := 6) #[true, true, true, true, true, true, true, false, false, false, false, false] S rfl rfl rfl rfl (meW _ _) Tryz.func157 rfl rfl hcon (wanted_none rfl) rfl rfl (by kernel_rfl) rfl ?_
 rintro e w ⟨rfl, bs2, hz2, hH⟩
 refine ⟨_, rfl, ?_⟩; clear S a; intro a S; clear H H2 hcon
 have H : HH B wb w ((gb, .cells #[.slice (some ⟨gr, 0, none⟩) (((((((([] : List Int) ++ [61]) ++ wq.dec (x.length + 4)) ++ [13, 10]) ++ y) ++ [58]) ++ x) ++ [13, 10]).length cn14] 34 (0, 0)) :: ((gr, .cells cr 5 fr) :: (po' ++ ((g1, .cells #[.slice Ax x.length cx, .slice Ay y.length cy] 73 (0, 0)) :: (opt go bp br :: (bs2 ++ L0)))))) := HH.app (HH.front (L1 := bs2) (S := ((gb, .cells #[.slice (some ⟨gr, 0, none⟩) (((((((([] : List Int) ++ [61]) ++ wq.dec (x.length + 4)) ++ [13, 10]) ++ y) ++ [58]) ++ x) ++ [13, 10]).length cn14] 34 (0, 0)) :: ((gr, .cells cr 5 fr) :: (po' ++ ((g1, .cells #[.slice Ax x.length cx, .slice Ay y.length cy] 73 (0, 0)) :: [opt go bp br]))))) (L2 := L0) hH) (by simp)
 clear hH
 refine d_pure (i := 7) #[true, true, true, true, true, true, true, true, false, false, false, false] S rfl (p_move rfl) (wanted_none rfl) rfl rfl (by kernel_rfl) hq123 ?_; clear S a; intro a S
 refine d_pure (i := 8) #[true, true, true, true, true, true, true, true, true, false, false, false] S rfl (p_extract rfl rfl) (wanted_none rfl) rfl rfl (by kernel_rfl) hq123 ?_; clear S a; intro a S
 refine d_pure (i := 9) #[true, true, true, true, true, true, true, true, true, true, false, false] S rfl (p_extract rfl rfl) (wanted_none rfl) rfl rfl (by kernel_rfl) hq123 ?_; clear S a; intro a S
 refine d_pure (i := 10) #[true, true, true, true, true, true, true, true, true, true, true, false] S rfl (p_assign rfl) (wanted_none rfl) rfl rfl (by kernel_rfl) hq123 ?_; clear S a; intro a S
 refine d_pure (i := 11) #[true, true, true, true, true, true, true, true, true, true, true, true] S rfl (p_assign rfl) (wanted_none rfl) rfl rfl (by kernel_rfl) hq123 ?_; clear S a; intro a S
 refine d_done (by kernel_rfl) ?_
 refine e_then ?_
 refine wp_seq ?_
 refine c_region ?_
 refine l_mv 2 S rfl ?_; clear S a; intro a S
 refine l_nil ?_
 refine e_then ?_
 refine wp_ret ?_
 refine r_doorA S (wr.pl.put_ wb _ B ((g1, .cells #[.slice Ax x.length cx, .slice Ay y.length cy] 73 (0, 0)) :: (opt go bp br :: (bs2 ++ L0))) bp gb cn14 (some ⟨gr, 0, none⟩) (((((((([] : List Int) ++ [61]) ++ wq.dec (x.length + 4)) ++ [13, 10]) ++ y) ++ [58]) ++ x) ++ [13, 10]) po' [(gr, .cells cr 5 fr)] hp' hn14 H) (invokesA (vs := [.pointer (some ⟨bp, 0, none⟩), .pointer (some ⟨gb, 0, none⟩)]) (caps := []) Tryz.func24 rfl rfl) (fun w' _ => res_t1 rfl rfl) ?_
 rintro w' ⟨po2, hp2, hH⟩
 have H3 := HH.front (L1 := po2) (S := ((g1, .cells #[.slice Ax x.length cx, .slice Ay y.length cy] 73 (0, 0)) :: [opt go bp br])) (L2 := bs2 ++ L0) (HH.app hH (by simp))
 exact ⟨rfl, _, ⟨br, po2, bs2, hp2, by simpa [mw.bl] using hz2, rfl⟩, HH.app (L := (opt go bp br :: (po2 ++ (bs2 ++ L0)))) (L' := (opt go bp br :: (po2 ++ bs2)) ++ L0) (HH.app (L' := ((g1, .cells #[.slice Ax x.length cx, .slice Ay y.length cy] 73 (0, 0)) :: (opt go bp br :: (po2 ++ (bs2 ++ L0))))) H3 (by simp)).tail (by simp)⟩
set_option maxHeartbeats 1000000 in
theorem chs1_ (wb w0 : World) (B : Nat) (L0 : dc.Bk) (go bp b : Nat) (l : List Int) (ls : List (Nat × Obj)) (hE : Env go bp b l ls) (ht : Lib.TabBelow Tryz.prog B wb "internal/strconv.uint64pow10" .u64 Lib.pow10Tab) (hT : fz.PTab 3 B wb) (H : HH B wb w0 (ls ++ L0)) (hl : l.length ≤ 10000000) (tx : ByteArray) (htx : tx.size ≤ 10000000) (h0 : 0 < tx.size) : Calls Tryz.prog 127 #[.agg #[.string tx], .iface 46 (.pointer (some ⟨b, 0, none⟩)), .pointer (some ⟨go, 0, none⟩)] w0 fun e w' => e = .returned .nilIface ∧ ∃ ls', Env go bp b (l ++ (59 :: (wq.dec tx.size ++ [13, 10] ++ (ints tx ++ [13, 10])))) ls' ∧ HH B wb w' (ls' ++ L0) := by
 obtain ⟨br, po, bs, hp, hz, rfl⟩ := hE
 replace H : HH B wb w0 (opt go bp br :: (po ++ (bs ++ L0))) := HH.app H (by simp)
 refine c_enter_d (args := [.agg #[.string tx], .iface 46 (.pointer (some ⟨b, 0, none⟩)), .pointer (some ⟨go, 0, none⟩)]) (k := 70) Tryz.func127 rfl rfl rfl (fun a S => ?_)
 refine wp_seq ?_
 refine c_region ?_
 refine l_box (cs := #[.string tx]) S H rfl rfl (fun w => bx) rfl rfl rfl ?_; clear S a H; intro g1 w a H S
 refine l_mv 1 S rfl ?_; clear S a; intro a S
 refine l_nil ?_
 refine e_then ?_
 refine wp_seq ?_
 refine c_region ?_
 refine l_mv 2 S rfl ?_; clear S a; intro a S
 refine l_pure S (p_fieldAddr rfl (fun w => fa102_0 w _ _)) rfl rfl rfl ?_; clear S a; intro a S
 refine l_read S H (r_load rfl (List.mem_cons_of_mem _ List.mem_cons_self) rfl (fun w hc => ld1 ag84 hc)) rfl rfl rfl ?_; clear S a; intro a S
 replace H : HH B wb _ ((g1, .cells #[.string tx] 77 (0, 0)) :: (opt go bp br :: (po ++ (bs ++ L0)))) := H
 replace H : HH B wb _ (po ++ ((g1, .cells #[.string tx] 77 (0, 0)) :: (opt go bp br :: (bs ++ L0)))) := HH.app (HH.front (L1 := ((g1, .cells #[.string tx] 77 (0, 0)) :: [opt go bp br])) (S := po) (L2 := (bs ++ L0)) (HH.app H (by simp))) (by simp)
 have hcon := wr.pl.get_ wb _ B ((g1, .cells #[.string tx] 77 (0, 0)) :: (opt go bp br :: (bs ++ L0))) bp po hp H
 refine l_callv (us := [.pointer (some ⟨bp, 0, none⟩)]) (cs := []) S rfl rfl rfl Tryz.func23 rfl rfl hcon rfl rfl rfl ?_
 rintro e w ⟨po', hp', gb, A0, c0, ow0, rfl, hown0, hH⟩
 refine ⟨_, rfl, ?_⟩; clear S a; intro a S; clear H hcon; have H := hH; clear hH
 refine l_mv 1 S rfl ?_; clear S a; intro a S
 refine l_nil ?_
 refine e_then ?_
 refine wp_seq ?_
 refine c_region ?_
 refine l_mv 2 S rfl ?_; clear S a; intro a S
 refine l_pure S (p_fieldAddr rfl (fun w => fa102_1 w _ _)) rfl rfl rfl ?_; clear S a; intro a S
 refine l_read S H (r_load rfl (List.mem_cons_of_mem _ (List.mem_append_right _ (List.mem_append_right _ (List.mem_cons_of_mem _ List.mem_cons_self)))) rfl (fun w hc => ld1 ag85 hc)) rfl rfl rfl ?_; clear S a; intro a S
 refine l_mv 1 S rfl ?_; clear S a; intro a S
 refine l_defer (xs := [.tmp 20]) (us := [.pointer (some ⟨bp, 0, none⟩)]) (cs := []) (vs := [.pointer (some ⟨gb, 0, none⟩)]) S rfl rfl rfl rfl rfl ?_; clear S a; intro a S
 refine l_nil ?_
 refine e_then ?_
 refine wp_seq ?_
 refine c_region ?_
 refine l_pure S (p_fieldAddr rfl (fun w => fa77_0 w _ _)) rfl rfl rfl ?_; clear S a; intro a S
 refine l_read S H (r_load rfl (List.mem_cons_of_mem _ (List.mem_append_right _ (List.mem_append_right _ List.mem_cons_self))) rfl (fun w hc => ld1 ag9 hc)) rfl rfl rfl ?_; clear S a; intro a S
 refine l_pure S (p_lens Tryz.underlying9 rfl) rfl rfl rfl ?_; clear S a; intro a S
 refine l_mv 1 S rfl ?_; clear S a; intro a S
 refine l_nil ?_
 refine e_then ?_
 refine wp_seq ?_
 refine c_region ?_
 refine l_mv 3 S rfl ?_; clear S a; intro a S
 refine l_read S H (r_load rfl List.mem_cons_self rfl (fun w hc => ld1 ag34 hc)) rfl rfl rfl ?_; clear S a; intro a S
 refine l_lit [(.const (.int .u8 59))] S H rfl rfl Tryz.underlying34 sz5 zv5 rfl rfl (by simp [Value.cells]) rfl rfl rfl ?_; clear S a H; intro g2 w a H S
 refine l_ownB [_, _] (l := ([] : List Int)) (r := [59]) S H rfl rfl rfl hown0 (src_lit (vs := ([59]).map (Value.int .u8)) H List.mem_cons_self Tryz.underlying34 (by simp [Value.oneCell'])) Tryz.underlying34 in5 rfl (by simp only [List.length_append, List.length_cons, List.length_nil, wq.dec_len, ints_len]; have := wq.nDigits_le (u := tx.size) (k := 18) (by omega); omega) (by decide) rfl rfl rfl ?_; clear S a H; intro An3 cn3 own3 w a hn3 H S
 replace H := H.tail
 replace H : HH B wb _ ((gb, .cells #[.slice A0 ([] : List Int).length c0] 34 (0, 0)) :: (own3 ++ (po' ++ ((g1, .cells #[.string tx] 77 (0, 0)) :: (opt go bp br :: (bs ++ L0)))))) := H
 refine l_mv 1 S rfl ?_; clear S a; intro a S
 refine l_store S H rfl rfl rfl .here (by first | decide | simp [Value.cells]) (fun w u hc hz => st1 sz34 rfl hc hz) rfl rfl ?_; clear S a H; intro w a H S
 refine l_nil ?_
 refine e_then ?_
 refine wp_seq ?_
 refine c_region ?_
 refine l_mv 3 S rfl ?_; clear S a; intro a S
 refine l_read S H (r_load rfl List.mem_cons_self rfl (fun w hc => ld1 ag34 hc)) rfl rfl rfl ?_; clear S a; intro a S
 refine l_mv 1 S rfl ?_; clear S a; intro a S
 have hcon := nm.appI_ wb _ B ((gb, .cells #[.slice An3 (([] : List Int) ++ [59]).length cn3] 34 (0, 0)) :: (po' ++ ((g1, .cells #[.string tx] 77 (0, 0)) :: (opt go bp br :: (bs ++ L0))))) ht hT An3 cn3 ((tx.size : Nat) : Int) (([] : List Int) ++ [59]) own3 hn3 H.mid (by have := wq.nDigits_le (u := tx.size) (k := 18) (by omega); omega) (by simp only [List.length_append, List.length_cons, List.length_nil, wq.dec_len, ints_len]; have := wq.nDigits_le (u := tx.size) (k := 18) (by omega); omega)
 refine l_call S rfl rfl Tryz.func106 rfl rfl hcon rfl rfl rfl ?_
 rintro e w ⟨An4, cn4, own4, rfl, hn4, hH⟩
 refine ⟨_, rfl, ?_⟩; clear S a; intro a S; clear H hcon; have H := hH.unmid; clear hH
 rw [mw.sdec_nat] at S hn4
 refine l_mv 1 S rfl ?_; clear S a; intro a S
 refine l_store S H rfl rfl rfl .here (by first | decide | simp [Value.cells]) (fun w u hc hz => st1 sz34 rfl hc hz) rfl rfl ?_; clear S a H; intro w a H S
 refine l_nil ?_
 refine e_then ?_
 refine wp_seq ?_
 refine d_start (id := 6) [5, 7] 8 #[false, false, false, false, false, false, false, false] H rfl rfl rfl (fun w H => ?_)
 refine d_pure (i := 0) #[true, false, false, false, false, false, false, false] S rfl (p_move rfl) (wanted_none rfl) rfl rfl (by kernel_rfl) hq127 ?_; clear S a; intro a S
 refine d_pure (i := 1) #[true, true, false, false, false, false, false, false] S rfl (p_move rfl) (wanted_none rfl) rfl rfl (by kernel_rfl) hq127 ?_; clear S a; intro a S
 refine d_pure (i := 2) #[true, true, true, false, false, false, false, false] S rfl (p_nilCheck rfl) (wanted_none rfl) rfl rfl (by kernel_rfl) hq127 ?_; clear S a; intro a S
 refine d_read (i := 3) #[true, true, true, true, false, false, false, false] S H rfl (r_load rfl List.mem_cons_self rfl (fun w hc => ld1 ag34 hc)) (wanted_none rfl) rfl rfl (by kernel_rfl) hq127 ?_; clear S a; intro a S
 have hcon := delim_ wb _ B _ H
 refine d_call (i := 4) #[true, true, true, true, true, false, false, false] S rfl rfl rfl Tryz.func107 rfl rfl hcon (wanted_none rfl) rfl rfl (by kernel_rfl) rfl ?_
 rintro e w ⟨gd5, rfl, hH⟩; refine ⟨_, rfl, hH.tail, ?_⟩; clear hcon H; have H := hH; clear hH; clear S a; intro a S
 refine d_ownB (i := 5) [_, _] (xs := ((([] : List Int) ++ [59]) ++ wq.dec tx.size)) (r := [13, 10]) #[true, true, true, true, true, true, false, false] S H rfl rfl rfl rfl hn4 (src_lit (vs := ([13, 10]).map (Value.int .u8)) H List.mem_cons_self Tryz.underlying34 (by simp [Value.oneCell'])) Tryz.underlying34 in5 rfl (by simp only [List.length_append, List.length_cons, List.length_nil, wq.dec_len, ints_len]; have := wq.nDigits_le (u := tx.size) (k := 18) (by omega); omega) (by decide) (wanted_none rfl) rfl rfl (by kernel_rfl) rfl ?_; clear S a H; intro An6 cn6 own6 w a hn6 H S
 replace H := H.tail
 replace H : HH B wb _ ((gb, .cells #[.slice An4 ((([] : List Int) ++ [59]) ++ wq.dec tx.size).length cn4] 34 (0, 0)) :: (own6 ++ (po' ++ ((g1, .cells #[.string tx] 77 (0, 0)) :: (opt go bp br :: (bs ++ L0)))))) := H
 refine d_pure (i := 6) #[true, true, true, true, true, true, true, false] S rfl (p_nilCheck rfl) (wanted_none rfl) rfl rfl (by kernel_rfl) hq127 ?_; clear S a; intro a S
 refine d_store (i := 7) #[true, true, true, true, true, true, true, true] S H rfl rfl rfl rfl .here (by first | decide | simp [Value.cells]) (fun w u hc hz => st1 sz34 rfl hc hz) (wanted_none rfl) rfl (by kernel_rfl) rfl ?_; clear S a H; intro w a H S
 refine d_done (by kernel_rfl) ?_
 refine e_then ?_
 refine wp_seq ?_
 refine wp_seq ?_
 refine c_region ?_
 refine l_mv 1 S rfl ?_; clear S a; intro a S
 refine l_pure S (p_gtr rfl rfl) rfl rfl rfl ?_; clear S a; intro a S
 refine l_nil ?_
 refine e_then ?_
 refine c_cond S rfl (fun c8 => ?_) (fun c8 => by have c8 := of_decide_eq_false c8; exfalso; omega)
 have c8 := of_decide_eq_true c8
 refine wp_seq ?_
 refine d_start (id := 8) [6, 8] 9 #[false, false, false, false, false, false, false, false, false] H rfl rfl rfl (fun w H => ?_)
 refine d_pure (i := 0) #[true, false, false, false, false, false, false, false, false] S rfl (p_move rfl) (wanted_none rfl) rfl rfl (by kernel_rfl) hq127 ?_; clear S a; intro a S
 refine d_pure (i := 1) #[true, true, false, false, false, false, false, false, false] S rfl (p_move rfl) (wanted_none rfl) rfl rfl (by kernel_rfl) hq127 ?_; clear S a; intro a S
 refine d_pure (i := 2) #[true, true, true, false, false, false, false, false, false] S rfl (p_nilCheck rfl) (wanted_none rfl) rfl rfl (by kernel_rfl) hq127 ?_; clear S a; intro a S
 refine d_read (i := 3) #[true, true, true, true, false, false, false, false, false] S H rfl (r_load rfl List.mem_cons_self rfl (fun w hc => ld1 ag34 hc)) (wanted_none rfl) rfl rfl (by kernel_rfl) hq127 ?_; clear S a; intro a S
 refine d_pure (i := 4) #[true, true, true, true, true, false, false, false, false] S rfl (p_fieldAddr rfl (fun w => fa77_0 w _ _)) (wanted_none rfl) rfl rfl (by kernel_rfl) hq127 ?_; clear S a; intro a S
 refine d_read (i := 5) #[true, true, true, true, true, true, false, false, false] S H rfl (r_load rfl (List.mem_cons_of_mem _ (List.mem_append_right _ (List.mem_append_right _ List.mem_cons_self))) rfl (fun w hc => ld1 ag9 hc)) (wanted_none rfl) rfl rfl (by kernel_rfl) hq127 ?_; clear S a; intro a S
 refine d_ownB (i := 6) [_] (xs := (((([] : List Int) ++ [59]) ++ wq.dec tx.size) ++ [13, 10])) (r := (ints tx)) #[true, true, true, true, true, true, true, false, false] S H rfl rfl rfl rfl hn6 (wq.src_str Tryz.underlying9 _) Tryz.underlying34 in5 rfl (by simp only [List.length_append, List.length_cons, List.length_nil, wq.dec_len, ints_len]; have := wq.nDigits_le (u := tx.size) (k := 18) (by omega); omega) (by decide) (wanted_none rfl) rfl rfl (by kernel_rfl) rfl ?_; clear S a H; intro An9 cn9 own9 w a hn9 H S
 replace H : HH B wb _ ((gb, .cells #[.slice An6 (((([] : List Int) ++ [59]) ++ wq.dec tx.size) ++ [13, 10]).length cn6] 34 (0, 0)) :: (own9 ++ (po' ++ ((g1, .cells #[.string tx] 77 (0, 0)) :: (opt go bp br :: (bs ++ L0)))))) := H
 refine d_pure (i := 7) #[true, true, true, true, true, true, true, true, false] S rfl (p_nilCheck rfl) (wanted_none rfl) rfl rfl (by kernel_rfl) hq127 ?_; clear S a; intro a S
 refine d_store (i := 8) #[true, true, true, true, true, true, true, true, true] S H rfl rfl rfl rfl .here (by first | decide | simp [Value.cells]) (fun w u hc hz => st1 sz34 rfl hc hz) (wanted_none rfl) rfl (by kernel_rfl) rfl ?_; clear S a H; intro w a H S
 refine d_done (by kernel_rfl) ?_
 refine e_then ?_
 refine d_start (id := 9) [5, 7] 8 #[false, false, false, false, false, false, false, false] H rfl rfl rfl (fun w H => ?_)
 refine d_pure (i := 0) #[true, false, false, false, false, false, false, false] S rfl (p_move rfl) (wanted_none rfl) rfl rfl (by kernel_rfl) hq127 ?_; clear S a; intro a S
 refine d_pure (i := 1) #[true, true, false, false, false, false, false, false] S rfl (p_move rfl) (wanted_none rfl) rfl rfl (by kernel_rfl) hq127 ?_; clear S a; intro a S
 refine d_pure (i := 2) #[true, true, true, false, false, false, false, false] S rfl (p_nilCheck rfl) (wanted_none rfl) rfl rfl (by kernel_rfl) hq127 ?_; clear S a; intro a S
 refine d_read (i := 3) #[true, true, true, true, false, false, false, false] S H rfl (r_load rfl List.mem_cons_self rfl (fun w hc => ld1 ag34 hc)) (wanted_none rfl) rfl rfl (by kernel_rfl) hq127 ?_; clear S a; intro a S
 have hcon := delim_ wb _ B _ H
 refine d_call (i := 4) #[true, true, true, true, true, false, false, false] S rfl rfl rfl Tryz.func107 rfl rfl hcon (wanted_none rfl) rfl rfl (by kernel_rfl) rfl ?_
 rintro e w ⟨gd10, rfl, hH⟩; refine ⟨_, rfl, hH.tail, ?_⟩; clear hcon H; have H := hH; clear hH; clear S a; intro a S
 refine d_ownB (i := 5) [_, _] (xs := ((((([] : List Int) ++ [59]) ++ wq.dec tx.size) ++ [13, 10]) ++ (ints tx))) (r := [13, 10]) #[true, true, true, true, true, true, false, false] S H rfl rfl rfl rfl hn9 (src_lit (vs := ([13, 10]).map (Value.int .u8)) H List.mem_cons_self Tryz.underlying34 (by simp [Value.oneCell'])) Tryz.underlying34 in5 rfl (by simp only [List.length_append, List.length_cons, List.length_nil, wq.dec_len, ints_len]; have := wq.nDigits_le (u := tx.size) (k := 18) (by omega); omega) (by decide) (wanted_none rfl) rfl rfl (by kernel_rfl) rfl ?_; clear S a H; intro An11 cn11 own11 w a hn11 H S
 replace H := H.tail
 replace H : HH B wb _ ((gb, .cells #[.slice An9 ((((([] : List Int) ++ [59]) ++ wq.dec tx.size) ++ [13, 10]) ++ (ints tx)).length cn9] 34 (0, 0)) :: (own11 ++ (po' ++ ((g1, .cells #[.string tx] 77 (0, 0)) :: (opt go bp br :: (bs ++ L0)))))) := H
 refine d_pure (i := 6) #[true, true, true, true, true, true, true, false] S rfl (p_nilCheck rfl) (wanted_none rfl) rfl rfl (by kernel_rfl) hq127 ?_; clear S a; intro a S
 refine d_store (i := 7) #[true, true, true, true, true, true, true, true] S H rfl rfl rfl rfl .here (by first | decide | simp [Value.cells]) (fun w u hc hz => st1 sz34 rfl hc hz) (wanted_none rfl) rfl (by kernel_rfl) rfl ?_; clear S a H; intro w a H S
 refine d_done (by kernel_rfl) ?_
 refine e_then ?_
 refine wp_seq ?_
 refine d_start (id := 10) [6] 12 #[false, false, false, false, false, false, false, false, false, false, false, false] H rfl rfl rfl (fun w H => ?_)
 refine d_pure (i := 0) #[true, false, false, false, false, false, false, false, false, false, false, false] S rfl (p_move rfl) (wanted_none rfl) rfl rfl (by kernel_rfl) hq127 ?_; clear S a; intro a S
 refine d_pure (i := 1) #[true, true, false, false, false, false, false, false, false, false, false, false] S rfl (p_move rfl) (wanted_none rfl) rfl rfl (by kernel_rfl) hq127 ?_; clear S a; intro a S
 refine d_pure (i := 2) #[true, true, true, false, false, false, false, false, false, false, false, false] S rfl (p_nilCheck rfl) (wanted_none rfl) rfl rfl (by kernel_rfl) hq127 ?_; clear S a; intro a S
 refine d_read (i := 3) #[true, true, true, true, false, false, false, false, false, false, false, false] S H rfl (r_load rfl List.mem_cons_self rfl (fun w hc => ld1 ag34 hc)) (wanted_none rfl) rfl rfl (by kernel_rfl) hq127 ?_; clear S a; intro a S
 refine d_pure (i := 4) #[true, true, true, true, true, false, false, false, false, false, false, false] S rfl (p_nilCheckI rfl) (wanted_none rfl) rfl rfl (by kernel_rfl) hq127 ?_; clear S a; intro a S
 refine d_pure (i := 5) #[true, true, true, true, true, true, false, false, false, false, false, false] S rfl (p_move rfl) (wanted_none rfl) rfl rfl (by kernel_rfl) hq127 ?_; clear S a; intro a S
 obtain ⟨gr, cr, fr, rfl, rfl, hlc, hcr, hth, hrow⟩ := rp.own_open hn11 (by simp only [List.length_append, List.length_cons, List.length_nil]; omega)
 replace H : HH B wb _ ((gb, .cells #[.slice (some ⟨gr, 0, none⟩) (((((([] : List Int) ++ [59]) ++ wq.dec tx.size) ++ [13, 10]) ++ (ints tx)) ++ [13, 10]).length cn11] 34 (0, 0)) :: ((gr, .cells cr 5 fr) :: (po' ++ ((g1, .cells #[.string tx] 77 (0, 0)) :: (opt go bp br :: (bs ++ L0)))))) := H
 have H2 := HH.front (L1 := ((gb, .cells #[.slice (some ⟨gr, 0, none⟩) (((((([] : List Int) ++ [59]) ++ wq.dec tx.size) ++ [13, 10]) ++ (ints tx)) ++ [13, 10]).length cn11] 34 (0, 0)) :: ((gr, .cells cr 5 fr) :: (po' ++ ((g1, .cells #[.string tx] 77 (0, 0)) :: [opt go bp br]))))) (S := bs) (L2 := L0) (HH.app H (by simp))
 have hcon := wr.bb.write_ wb _ B (((gb, .cells #[.slice (some ⟨gr, 0, none⟩) (((((([] : List Int) ++ [59]) ++ wq.dec tx.size) ++ [13, 10]) ++ (ints tx)) ++ [13, 10]).length cn11] 34 (0, 0)) :: ((gr, .cells cr 5 fr) :: (po' ++ ((g1, .cells #[.string tx] 77 (0, 0)) :: [opt go bp br])))) ++ L0) b l bs hz gr 0 cn11 cr fr (((((([] : List Int) ++ [59]) ++ wq.dec tx.size) ++ [13, 10]) ++ (ints tx)) ++ [13, 10]) (by simp) hrow (by simp only [List.length_append, List.length_cons, List.length_nil]; omega) H2 (by simp only [List.length_append, List.length_cons, List.length_nil, wq.dec_len, ints_len]; have := wq.nDigits_le (u := tx.size) (k := 18) (by omega); omega)
 refine d_invoke_last (i := 6) #[true, true, true, true, true, true, true, false, false, false, false, false] S rfl rfl rfl rfl (meW _ _) Tryz.func157 rfl rfl hcon (wanted_none rfl) rfl rfl (by kernel_rfl) rfl ?_
 rintro e w ⟨rfl, bs2, hz2, hH⟩
 refine ⟨_, rfl, ?_⟩; clear S a; intro a S; clear H H2 hcon
 have H : HH B wb w ((gb, .cells #[.slice (some ⟨gr, 0, none⟩) (((((([] : List Int) ++ [59]) ++ wq.dec tx.size) ++ [13, 10]) ++ (ints tx)) ++ [13, 10]).length cn11] 34 (0, 0)) :: ((gr, .cells cr 5 fr) :: (po' ++ ((g1, .cells #[.string tx] 77 (0, 0)) :: (opt go bp br :: (bs2 ++ L0)))))) := HH.app (HH.front (L1 := bs2) (S := ((gb, .cells #[.slice (some ⟨gr, 0, none⟩) (((((([] : List Int) ++ [59]) ++ wq.dec tx.size) ++ [13, 10]) ++ (ints tx)) ++ [13, 10]).length cn11] 34 (0, 0)) :: ((gr, .cells cr 5 fr) :: (po' ++ ((g1, .cells #[.string tx] 77 (0, 0)) :: [opt go bp br]))))) (L2 := L0) hH) (by simp)
 clear hH
 refine d_pure (i := 7) #[true, true, true, true, true, true, true, true, false, false, false, false] S rfl (p_move rfl) (wanted_none rfl) rfl rfl (by kernel_rfl) hq127 ?_; clear S a; intro a S
 refine d_pure (i := 8) #[true, true, true, true, true, true, true, true, true, false, false, false] S rfl (p_extract rfl rfl) (wanted_none rfl) rfl rfl (by kernel_rfl) hq127 ?_; clear S a; intro a S
 refine d_pure (i := 9) #[true, true, true, true, true, true, true, true, true, true, false, false] S rfl (p_extract rfl rfl) (wanted_none rfl) rfl rfl (by kernel_rfl) hq127 ?_; clear S a; intro a S
 refine d_pure (i := 10) #[true, true, true, true, true, true, true, true, true, true, true, false] S rfl (p_assign rfl) (wanted_none rfl) rfl rfl (by kernel_rfl) hq127 ?_; clear S a; intro a S
 refine d_pure (i := 11) #[true, true, true, true, true, true, true, true, true, true, true, true] S rfl (p_assign rfl) (wanted_none rfl) rfl rfl (by kernel_rfl) hq127 ?_; clear S a; intro a S
 refine d_done (by kernel_rfl) ?_
 refine e_then ?_
 refine wp_seq ?_
 refine c_region ?_
 refine l_mv 2 S rfl ?_; clear S a; intro a S
 refine l_nil ?_
 refine e_then ?_
 refine wp_ret ?_
 refine r_doorA S (wr.pl.put_ wb _ B ((g1, .cells #[.string tx] 77 (0, 0)) :: (opt go bp br :: (bs2 ++ L0))) bp gb cn11 (some ⟨gr, 0, none⟩) (((((([] : List Int) ++ [59]) ++ wq.dec tx.size) ++ [13, 10]) ++ (ints tx)) ++ [13, 10]) po' [(gr, .cells cr 5 fr)] hp' hn11 H) (invokesA (vs := [.pointer (some ⟨bp, 0, none⟩), .pointer (some ⟨gb, 0, none⟩)]) (caps := []) Tryz.func24 rfl rfl) (fun w' _ => res_t1 rfl rfl) ?_
 rintro w' ⟨po2, hp2, hH⟩
 have H3 := HH.front (L1 := po2) (S := ((g1, .cells #[.string tx] 77 (0, 0)) :: [opt go bp br])) (L2 := bs2 ++ L0) (HH.app hH (by simp))
 exact ⟨rfl, _, ⟨br, po2, bs2, hp2, by simpa [mw.bl] using hz2, rfl⟩, HH.app (L := (opt go bp br :: (po2 ++ (bs2 ++ L0)))) (L' := (opt go bp br :: (po2 ++ bs2)) ++ L0) (HH.app (L' := ((g1, .cells #[.string tx] 77 (0, 0)) :: (opt go bp br :: (po2 ++ (bs2 ++ L0))))) H3 (by simp)).tail (by simp)⟩
set_option maxHeartbeats 1000000 in
theorem chs0_ (wb w0 : World) (B : Nat) (L0 : dc.Bk) (go bp b : Nat) (l : List Int) (ls : List (Nat × Obj)) (hE : Env go bp b l ls) (ht : Lib.TabBelow Tryz.prog B wb "internal/strconv.uint64pow10" .u64 Lib.pow10Tab) (hT : fz.PTab 3 B wb) (H : HH B wb w0 (ls ++ L0)) (hl : l.length ≤ 10000000) (tx : ByteArray) (htx : tx.size ≤ 10000000) (h0 : tx.size = 0) : Calls Tryz.prog 127 #[.agg #[.string tx], .iface 46 (.pointer (some ⟨b, 0, none⟩)), .pointer (some ⟨go, 0, none⟩)] w0 fun e w' => e = .returned .nilIface ∧ ∃ ls', Env go bp b (l ++ (59 :: (wq.dec tx.size ++ [13, 10] ++ ([])))) ls' ∧ HH B wb w' (ls' ++ L0) := by
 obtain ⟨br, po, bs, hp, hz, rfl⟩ := hE
 replace H : HH B wb w0 (opt go bp br :: (po ++ (bs ++ L0))) := HH.app H (by simp)
 refine c_enter_d (args := [.agg #[.string tx], .iface 46 (.pointer (some ⟨b, 0, none⟩)), .pointer (some ⟨go, 0, none⟩)]) (k := 70) Tryz.func127 rfl rfl rfl (fun a S => ?_)
 refine wp_seq ?_
 refine c_region ?_
 refine l_box (cs := #[.string tx]) S H rfl rfl (fun w => bx) rfl rfl rfl ?_; clear S a H; intro g1 w a H S
 refine l_mv 1 S rfl ?_; clear S a; intro a S
 refine l_nil ?_
 refine e_then ?_
 refine wp_seq ?_
 refine c_region ?_
 refine l_mv 2 S rfl ?_; clear S a; intro a S
 refine l_pure S (p_fieldAddr rfl (fun w => fa102_0 w _ _)) rfl rfl rfl ?_; clear S a; intro a S
 refine l_read S H (r_load rfl (List.mem_cons_of_mem _ List.mem_cons_self) rfl (fun w hc => ld1 ag84 hc)) rfl rfl rfl ?_; clear S a; intro a S
 replace H : HH B wb _ ((g1, .cells #[.string tx] 77 (0, 0)) :: (opt go bp br :: (po ++ (bs ++ L0)))) := H
 replace H : HH B wb _ (po ++ ((g1, .cells #[.string tx] 77 (0, 0)) :: (opt go bp br :: (bs ++ L0)))) := HH.app (HH.front (L1 := ((g1, .cells #[.string tx] 77 (0, 0)) :: [opt go bp br])) (S := po) (L2 := (bs ++ L0)) (HH.app H (by simp))) (by simp)
 have hcon := wr.pl.get_ wb _ B ((g1, .cells #[.string tx] 77 (0, 0)) :: (opt go bp br :: (bs ++ L0))) bp po hp H
 refine l_callv (us := [.pointer (some ⟨bp, 0, none⟩)]) (cs := []) S rfl rfl rfl Tryz.func23 rfl rfl hcon rfl rfl rfl ?_
 rintro e w ⟨po', hp', gb, A0, c0, ow0, rfl, hown0, hH⟩
 refine ⟨_, rfl, ?_⟩; clear S a; intro a S; clear H hcon; have H := hH; clear hH
 refine l_mv 1 S rfl ?_; clear S a; intro a S
 refine l_nil ?_
 refine e_then ?_
 refine wp_seq ?_
 refine c_region ?_
 refine l_mv 2 S rfl ?_; clear S a; intro a S
 refine l_pure S (p_fieldAddr rfl (fun w => fa102_1 w _ _)) rfl rfl rfl ?_; clear S a; intro a S
 refine l_read S H (r_load rfl (List.mem_cons_of_mem _ (List.mem_append_right _ (List.mem_append_right _ (List.mem_cons_of_mem _ List.mem_cons_self)))) rfl (fun w hc => ld1 ag85 hc)) rfl rfl rfl ?_; clear S a; intro a S
 refine l_mv 1 S rfl ?_; clear S a; intro a S
 refine l_defer (xs := [.tmp 20]) (us := [.pointer (some ⟨bp, 0, none⟩)]) (cs := []) (vs := [.pointer (some ⟨gb, 0, none⟩)]) S rfl rfl rfl rfl rfl ?_; clear S a; intro a S
 refine l_nil ?_
 refine e_then ?_
 refine wp_seq ?_
 refine c_region ?_
 refine l_pure S (p_fieldAddr rfl (fun w => fa77_0 w _ _)) rfl rfl rfl ?_; clear S a; intro a S
 refine l_read S H (r_load rfl (List.mem_cons_of_mem _ (List.mem_append_right _ (List.mem_append_right _ List.mem_cons_self))) rfl (fun w hc => ld1 ag9 hc)) rfl rfl rfl ?_; clear S a; intro a S
 refine l_pure S (p_lens Tryz.underlying9 rfl) rfl rfl rfl ?_; clear S a; intro a S
 refine l_mv 1 S rfl ?_; clear S a; intro a S
 refine l_nil ?_
 refine e_then ?_
 refine wp_seq ?_
 refine c_region ?_
 refine l_mv 3 S rfl ?_; clear S a; intro a S
 refine l_read S H (r_load rfl List.mem_cons_self rfl (fun w hc => ld1 ag34 hc)) rfl rfl rfl ?_; clear S a; intro a S
 refine l_lit [(.const (.int .u8 59))] S H rfl rfl Tryz.underlying34 sz5 zv5 rfl rfl (by simp [Value.cells]) rfl rfl rfl ?_; clear S a H; intro g2 w a H S
 refine l_ownB [_, _] (l := ([] : List Int)) (r := [59]) S H rfl rfl rfl hown0 (src_lit (vs := ([59]).map (Value.int .u8)) H List.mem_cons_self Tryz.underlying34 (by simp [Value.oneCell'])) Tryz.underlying34 in5 rfl (by simp only [List.length_append, List.length_cons, List.length_nil, wq.dec_len, ints_len]; have := wq.nDigits_le (u := tx.size) (k := 18) (by omega); omega) (by decide) rfl rfl rfl ?_; clear S a H; intro An3 cn3 own3 w a hn3 H S
 replace H := H.tail
 replace H : HH B wb _ ((gb, .cells #[.slice A0 ([] : List Int).length c0] 34 (0, 0)) :: (own3 ++ (po' ++ ((g1, .cells #[.string tx] 77 (0, 0)) :: (opt go bp br :: (bs ++ L0)))))) := H
 refine l_mv 1 S rfl ?_; clear S a; intro a S
 refine l_store S H rfl rfl rfl .here (by first | decide | simp [Value.cells]) (fun w u hc hz => st1 sz34 rfl hc hz) rfl rfl ?_; clear S a H; intro w a H S
 refine l_nil ?_
 refine e_then ?_
 refine wp_seq ?_
 refine c_region ?_
 refine l_mv 3 S rfl ?_; clear S a; intro a S
 refine l_read S H (r_load rfl List.mem_cons_self rfl (fun w hc => ld1 ag34 hc)) rfl rfl rfl ?_; clear S a; intro a S
 refine l_mv 1 S rfl ?_; clear S a; intro a S
 have hcon := nm.appI_ wb _ B ((gb, .cells #[.slice An3 (([] : List Int) ++ [59]).length cn3] 34 (0, 0)) :: (po' ++ ((g1, .cells #[.string tx] 77 (0, 0)) :: (opt go bp br :: (bs ++ L0))))) ht hT An3 cn3 ((tx.size : Nat) : Int) (([] : List Int) ++ [59]) own3 hn3 H.mid (by have := wq.nDigits_le (u := tx.size) (k := 18) (by omega); omega) (by simp only [List.length_append, List.length_cons, List.length_nil, wq.dec_len, ints_len]; have := wq.nDigits_le (u := tx.size) (k := 18) (by omega); omega)
 refine l_call S rfl rfl Tryz.func106 rfl rfl hcon rfl rfl rfl ?_
 rintro e w ⟨An4, cn4, own4, rfl, hn4, hH⟩
 refine ⟨_, rfl, ?_⟩; clear S a; intro a S; clear H hcon; have H := hH.unmid; clear hH
 rw [mw.sdec_nat] at S hn4
 refine l_mv 1 S rfl ?_; clear S a; intro a S
 refine l_store S H rfl rfl rfl .here (by first | decide | simp [Value.cells]) (fun w u hc hz => st1 sz34 rfl hc hz) rfl rfl ?_; clear S a H; intro w a H S
 refine l_nil ?_
 refine e_then ?_
 refine wp_seq ?_
 refine d_start (id := 6) [5, 7] 8 #[false, false, false, false, false, false, false, false] H rfl rfl rfl (fun w H => ?_)
 refine d_pure (i := 0) #[true, false, false, false, false, false, false, false] S rfl (p_move rfl) (wanted_none rfl) rfl rfl (by kernel_rfl) hq127 ?_; clear S a; intro a S
 refine d_pure (i := 1) #[true, true, false, false, false, false, false, false] S rfl (p_move rfl) (wanted_none rfl) rfl rfl (by kernel_rfl) hq127 ?_; clear S a; intro a S
 refine d_pure (i := 2) #[true, true, true, false, false, false, false, false] S rfl (p_nilCheck rfl) (wanted_none rfl) rfl rfl (by kernel_rfl) hq127 ?_; clear S a; intro a S
 refine d_read (i := 3) #[true, true, true, true, false, false, false, false] S H rfl (r_load rfl List.mem_cons_self rfl (fun w hc => ld1 ag34 hc)) (wanted_none rfl) rfl rfl (by kernel_rfl) hq127 ?_; clear S a; intro a S
 have hcon := delim_ wb _ B _ H
 refine d_call (i := 4) #[true, true, true, true, true, false, false, false] S rfl rfl rfl Tryz.func107 rfl rfl hcon (wanted_none rfl) rfl rfl (by kernel_rfl) rfl ?_
 rintro e w ⟨gd5, rfl, hH⟩; refine ⟨_, rfl, hH.tail, ?_⟩; clear hcon H; have H := hH; clear hH; clear S a; intro a S
 refine d_ownB (i := 5) [_, _] (xs := ((([] : List Int) ++ [59]) ++ wq.dec tx.size)) (r := [13, 10]) #[true, true, true, true, true, true, false, false] S H rfl rfl rfl rfl hn4 (src_lit (vs := ([13, 10]).map (Value.int .u8)) H List.mem_cons_self Tryz.underlying34 (by simp [Value.oneCell'])) Tryz.underlying34 in5 rfl (by simp only [List.length_append, List.length_cons, List.length_nil, wq.dec_len, ints_len]; have := wq.nDigits_le (u := tx.size) (k := 18) (by omega); omega) (by decide) (wanted_none rfl) rfl rfl (by kernel_rfl) rfl ?_; clear S a H; intro An6 cn6 own6 w a hn6 H S
 replace H := H.tail
 replace H : HH B wb _ ((gb, .cells #[.slice An4 ((([] : List Int) ++ [59]) ++ wq.dec tx.size).length cn4] 34 (0, 0)) :: (own6 ++ (po' ++ ((g1, .cells #[.string tx] 77 (0, 0)) :: (opt go bp br :: (bs ++ L0)))))) := H
 refine d_pure (i := 6) #[true, true, true, true, true, true, true, false] S rfl (p_nilCheck rfl) (wanted_none rfl) rfl rfl (by kernel_rfl) hq127 ?_; clear S a; intro a S
 refine d_store (i := 7) #[true, true, true, true, true, true, true, true] S H rfl rfl rfl rfl .here (by first | decide | simp [Value.cells]) (fun w u hc hz => st1 sz34 rfl hc hz) (wanted_none rfl) rfl (by kernel_rfl) rfl ?_; clear S a H; intro w a H S
 refine d_done (by kernel_rfl) ?_
 refine e_then ?_
 refine wp_seq ?_
 refine wp_seq ?_
 refine c_region ?_
 refine l_mv 1 S rfl ?_; clear S a; intro a S
 refine l_pure S (p_gtr rfl rfl) rfl rfl rfl ?_; clear S a; intro a S
 refine l_nil ?_
 refine e_then ?_
 refine c_cond S rfl (fun c8 => by have c8 := of_decide_eq_true c8; exfalso; omega) (fun c8 => ?_)
 have c8 := of_decide_eq_false c8
 refine wp_skip ?_
 refine e_then ?_
 refine wp_seq ?_
 refine d_start (id := 10) [6] 12 #[false, false, false, false, false, false, false, false, false, false, false, false] H rfl rfl rfl (fun w H => ?_)
 refine d_pure (i := 0) #[true, false, false, false, false, false, false, false, false, false, false, false] S rfl (p_move rfl) (wanted_none rfl) rfl rfl (by kernel_rfl) hq127 ?_; clear S a; intro a S
 refine d_pure (i := 1) #[true, true, false, false, false, false, false, false, false, false, false, false] S rfl (p_move rfl) (wanted_none rfl) rfl rfl (by kernel_rfl) hq127 ?_; clear S a; intro a S
 refine d_pure (i := 2) #[true, true, true, false, false, false, false, false, false, false, false, false] S rfl (p_nilCheck rfl) (wanted_none rfl) rfl rfl (by kernel_rfl) hq127 ?_; clear S a; intro a S
 refine d_read (i := 3) #[true, true, true, true, false, false, false, false, false, false, false, false] S H rfl (r_load rfl List.mem_cons_self rfl (fun w hc => ld1 ag34 hc)) (wanted_none rfl) rfl rfl (by kernel_rfl) hq127 ?_; clear S a; intro a S
 refine d_pure (i := 4) #[true, true, true, true, true, false, false, false, false, false, false, false] S rfl (p_nilCheckI rfl) (wanted_none rfl) rfl rfl (by kernel_rfl) hq127 ?_; clear S a; intro a S
 refine d_pure (i := 5) #[true, true, true, true, true, true, false, false, false, false, false, false] S rfl (p_move rfl) (wanted_none rfl) rfl rfl (by kernel_rfl) hq127 ?_; clear S a; intro a S
 obtain ⟨gr, cr, fr, rfl, rfl, hlc, hcr, hth, hrow⟩ := rp.own_open hn6 (by simp only [List.length_append, List.length_cons, List.length_nil]; omega)
 replace H : HH B wb _ ((gb, .cells #[.slice (some ⟨gr, 0, none⟩) (((([] : List Int) ++ [59]) ++ wq.dec tx.size) ++ [13, 10]).length cn6] 34 (0, 0)) :: ((gr, .cells cr 5 fr) :: (po' ++ ((g1, .cells #[.string tx] 77 (0, 0)) :: (opt go bp br :: (bs ++ L0)))))) := H
 have H2 := HH.front (L1 := ((gb, .cells #[.slice (some ⟨gr, 0, none⟩) (((([] : List Int) ++ [59]) ++ wq.dec tx.size) ++ [13, 10]).length cn6] 34 (0, 0)) :: ((gr, .cells cr 5 fr) :: (po' ++ ((g1, .cells #[.string tx] 77 (0, 0)) :: [opt go bp br]))))) (S := bs) (L2 := L0) (HH.app H (by simp))
 have hcon := wr.bb.write_ wb _ B (((gb, .cells #[.slice (some ⟨gr, 0, none⟩) (((([] : List Int) ++ [59]) ++ wq.dec tx.size) ++ [13, 10]).length cn6] 34 (0, 0)) :: ((gr, .cells cr 5 fr) :: (po' ++ ((g1, .cells #[.string tx] 77 (0, 0)) :: [opt go bp br])))) ++ L0) b l bs hz gr 0 cn6 cr fr (((([] : List Int) ++ [59]) ++ wq.dec tx.size) ++ [13, 10]) (by simp) hrow (by simp only [List.length_append, List.length_cons, List.length_nil]; omega) H2 (by simp only [List.length_append, List.length_cons, List.length_nil, wq.dec_len, ints_len]; have := wq.nDigits_le (u := tx.size) (k := 18) (by omega); omega)
 refine d_invoke_last (i := 6) #[true, true, true, true, true, true, true, false, false, false, false, false] S rfl rfl rfl rfl (meW _ _) Tryz.func157 rfl rfl hcon (wanted_none rfl) rfl rfl (by kernel_rfl) rfl ?_
 rintro e w ⟨rfl, bs2, hz2, hH⟩
 refine ⟨_, rfl, ?_⟩; clear S a; intro a S; clear H H2 hcon
 have H : HH B wb w ((gb, .cells #[.slice (some ⟨gr, 0, none⟩) (((([] : List Int) ++ [59]) ++ wq.dec tx.size) ++ [13, 10]).length cn6] 34 (0, 0)) :: ((gr, .cells cr 5 fr) :: (po' ++ ((g1, .cells #[.string tx] 77 (0, 0)) :: (opt go bp br :: (bs2 ++ L0)))))) := HH.app (HH.front (L1 := bs2) (S := ((gb, .cells #[.slice (some ⟨gr, 0, none⟩) (((([] : List Int) ++ [59]) ++ wq.dec tx.size) ++ [13, 10]).length cn6] 34 (0, 0)) :: ((gr, .cells cr 5 fr) :: (po' ++ ((g1, .cells #[.string tx] 77 (0, 0)) :: [opt go bp br]))))) (L2 := L0) hH) (by simp)
 clear hH
 refine d_pure (i := 7) #[true, true, true, true, true, true, true, true, false, false, false, false] S rfl (p_move rfl) (wanted_none rfl) rfl rfl (by kernel_rfl) hq127 ?_; clear S a; intro a S
 refine d_pure (i := 8) #[true, true, true, true, true, true, true, true, true, false, false, false] S rfl (p_extract rfl rfl) (wanted_none rfl) rfl rfl (by kernel_rfl) hq127 ?_; clear S a; intro a S
 refine d_pure (i := 9) #[true, true, true, true, true, true, true, true, true, true, false, false] S rfl (p_extract rfl rfl) (wanted_none rfl) rfl rfl (by kernel_rfl) hq127 ?_; clear S a; intro a S
 refine d_pure (i := 10) #[true, true, true, true, true, true, true, true, true, true, true, false] S rfl (p_assign rfl) (wanted_none rfl) rfl rfl (by kernel_rfl) hq127 ?_; clear S a; intro a S
 refine d_pure (i := 11) #[true, true, true, true, true, true, true, true, true, true, true, true] S rfl (p_assign rfl) (wanted_none rfl) rfl rfl (by kernel_rfl) hq127 ?_; clear S a; intro a S
 refine d_done (by kernel_rfl) ?_
 refine e_then ?_
 refine wp_seq ?_
 refine c_region ?_
 refine l_mv 2 S rfl ?_; clear S a; intro a S
 refine l_nil ?_
 refine e_then ?_
 refine wp_ret ?_
 refine r_doorA S (wr.pl.put_ wb _ B ((g1, .cells #[.string tx] 77 (0, 0)) :: (opt go bp br :: (bs2 ++ L0))) bp gb cn6 (some ⟨gr, 0, none⟩) (((([] : List Int) ++ [59]) ++ wq.dec tx.size) ++ [13, 10]) po' [(gr, .cells cr 5 fr)] hp' hn6 H) (invokesA (vs := [.pointer (some ⟨bp, 0, none⟩), .pointer (some ⟨gb, 0, none⟩)]) (caps := []) Tryz.func24 rfl rfl) (fun w' _ => res_t1 rfl rfl) ?_
 rintro w' ⟨po2, hp2, hH⟩
 have H3 := HH.front (L1 := po2) (S := ((g1, .cells #[.string tx] 77 (0, 0)) :: [opt go bp br])) (L2 := bs2 ++ L0) (HH.app hH (by simp))
 exact ⟨rfl, _, ⟨br, po2, bs2, hp2, by simpa [mw.bl] using hz2, rfl⟩, HH.app (L := (opt go bp br :: (po2 ++ (bs2 ++ L0)))) (L' := (opt go bp br :: (po2 ++ bs2)) ++ L0) (HH.app (L' := ((g1, .cells #[.string tx] 77 (0, 0)) :: (opt go bp br :: (po2 ++ (bs2 ++ L0))))) H3 (by simp)).tail (by simp)⟩
set_option maxHeartbeats 1000000 in
theorem chb1_ (wb w0 : World) (B : Nat) (L0 : dc.Bk) (go bp b : Nat) (l : List Int) (ls : List (Nat × Obj)) (hE : Env go bp b l ls) (ht : Lib.TabBelow Tryz.prog B wb "internal/strconv.uint64pow10" .u64 Lib.pow10Tab) (hT : fz.PTab 3 B wb) (H : HH B wb w0 (ls ++ L0)) (hl : l.length ≤ 10000000) (Ax : Option Addr) (cx : Nat) (x : List Int) (ox : List (Nat × Obj)) (hox : OwnB 5 (.slice Ax x.length cx) x ox) (hsx : ∀ p ∈ ox, p ∈ L0) (hx : x.length ≤ 10000000) (h0 : 0 < x.length) : Calls Tryz.prog 126 #[.agg #[.slice Ax x.length cx], .iface 46 (.pointer (some ⟨b, 0, none⟩)), .pointer (some ⟨go, 0, none⟩)] w0 fun e w' => e = .returned .nilIface ∧ ∃ ls', Env go bp b (l ++ (59 :: (wq.dec x.length ++ [13, 10] ++ (x ++ [13, 10])))) ls' ∧ HH B wb w' (ls' ++ L0) := by
 obtain ⟨br, po, bs, hp, hz, rfl⟩ := hE
 replace H : HH B wb w0 (opt go bp br :: (po ++ (bs ++ L0))) := HH.app H (by simp)
 refine c_enter_d (args := [.agg #[.slice Ax x.length cx], .iface 46 (.pointer (some ⟨b, 0, none⟩)), .pointer (some ⟨go, 0, none⟩)]) (k := 70) Tryz.func126 rfl rfl rfl (fun a S => ?_)
 refine wp_seq ?_
 refine c_region ?_
 refine l_box (cs := #[.slice Ax x.length cx]) S H rfl rfl (fun w => bx) rfl rfl rfl ?_; clear S a H; intro g1 w a H S
 refine l_mv 1 S rfl ?_; clear S a; intro a S
 refine l_nil ?_
 refine e_then ?_
 refine wp_seq ?_
 refine c_region ?_
 refine l_mv 2 S rfl ?_; clear S a; intro a S
 refine l_pure S (p_fieldAddr rfl (fun w => fa102_0 w _ _)) rfl rfl rfl ?_; clear S a; intro a S
 refine l_read S H (r_load rfl (List.mem_cons_of_mem _ List.mem_cons_self) rfl (fun w hc => ld1 ag84 hc)) rfl rfl rfl ?_; clear S a; intro a S
 replace H : HH B wb _ ((g1, .cells #[.slice Ax x.length cx] 76 (0, 0)) :: (opt go bp br :: (po ++ (bs ++ L0)))) := H
 replace H : HH B wb _ (po ++ ((g1, .cells #[.slice Ax x.length cx] 76 (0, 0)) :: (opt go bp br :: (bs ++ L0)))) := HH.app (HH.front (L1 := ((g1, .cells #[.slice Ax x.length cx] 76 (0, 0)) :: [opt go bp br])) (S := po) (L2 := (bs ++ L0)) (HH.app H (by simp))) (by simp)
 have hcon := wr.pl.get_ wb _ B ((g1, .cells #[.slice Ax x.length cx] 76 (0, 0)) :: (opt go bp br :: (bs ++ L0))) bp po hp H
 refine l_callv (us := [.pointer (some ⟨bp, 0, none⟩)]) (cs := []) S rfl rfl rfl Tryz.func23 rfl rfl hcon rfl rfl rfl ?_
 rintro e w ⟨po', hp', gb, A0, c0, ow0, rfl, hown0, hH⟩
 refine ⟨_, rfl, ?_⟩; clear S a; intro a S; clear H hcon; have H := hH; clear hH
 refine l_mv 1 S rfl ?_; clear S a; intro a S
 refine l_nil ?_
 refine e_then ?_
 refine wp_seq ?_
 refine c_region ?_
 refine l_mv 2 S rfl ?_; clear S a; intro a S
 refine l_pure S (p_fieldAddr rfl (fun w => fa102_1 w _ _)) rfl rfl rfl ?_; clear S a; intro a S
 refine l_read S H (r_load rfl (List.mem_cons_of_mem _ (List.mem_append_right _ (List.mem_append_right _ (List.mem_cons_of_mem _ List.mem_cons_self)))) rfl (fun w hc => ld1 ag85 hc)) rfl rfl rfl ?_; clear S a; intro a S
 refine l_mv 1 S rfl ?_; clear S a; intro a S
 refine l_defer (xs := [.tmp 20]) (us := [.pointer (some ⟨bp, 0, none⟩)]) (cs := []) (vs := [.pointer (some ⟨gb, 0, none⟩)]) S rfl rfl rfl rfl rfl ?_; clear S a; intro a S
 refine l_nil ?_
 refine e_then ?_
 refine wp_seq ?_
 refine c_region ?_
 refine l_pure S (p_fieldAddr rfl (fun w => fa76_0 w _ _)) rfl rfl rfl ?_; clear S a; intro a S
 refine l_read S H (r_load rfl (List.mem_cons_of_mem _ (List.mem_append_right _ (List.mem_append_right _ List.mem_cons_self))) rfl (fun w hc => ld1 ag34 hc)) rfl rfl rfl ?_; clear S a; intro a S
 refine l_pure S (p_len Tryz.underlying34 rfl) rfl rfl rfl ?_; clear S a; intro a S
 refine l_mv 1 S rfl ?_; clear S a; intro a S
 refine l_nil ?_
 refine e_then ?_
 refine wp_seq ?_
 refine c_region ?_
 refine l_mv 3 S rfl ?_; clear S a; intro a S
 refine l_read S H (r_load rfl List.mem_cons_self rfl (fun w hc => ld1 ag34 hc)) rfl rfl rfl ?_; clear S a; intro a S
 refine l_lit [(.const (.int .u8 59))] S H rfl rfl Tryz.underlying34 sz5 zv5 rfl rfl (by simp [Value.cells]) rfl rfl rfl ?_; clear S a H; intro g2 w a H S
 refine l_ownB [_, _] (l := ([] : List Int)) (r := [59]) S H rfl rfl rfl hown0 (src_lit (vs := ([59]).map (Value.int .u8)) H List.mem_cons_self Tryz.underlying34 (by simp [Value.oneCell'])) Tryz.underlying34 in5 rfl (by simp only [List.length_append, List.length_cons, List.length_nil, wq.dec_len, ints_len]; have := wq.nDigits_le (u := x.length) (k := 18) (by omega); omega) (by decide) rfl rfl rfl ?_; clear S a H; intro An3 cn3 own3 w a hn3 H S
 replace H := H.tail
 replace H : HH B wb _ ((gb, .cells #[.slice A0 ([] : List Int).length c0] 34 (0, 0)) :: (own3 ++ (po' ++ ((g1, .cells #[.slice Ax x.length cx] 76 (0, 0)) :: (opt go bp br :: (bs ++ L0)))))) := H
 refine l_mv 1 S rfl ?_; clear S a; intro a S
 refine l_store S H rfl rfl rfl .here (by first | decide | simp [Value.cells]) (fun w u hc hz => st1 sz34 rfl hc hz) rfl rfl ?_; clear S a H; intro w a H S
 refine l_nil ?_
 refine e_then ?_
 refine wp_seq ?_
 refine c_region ?_
 refine l_mv 3 S rfl ?_; clear S a; intro a S
 refine l_read S H (r_load rfl List.mem_cons_self rfl (fun w hc => ld1 ag34 hc)) rfl rfl rfl ?_; clear S a; intro a S
 refine l_mv 1 S rfl ?_; clear S a; intro a S
 have hcon := nm.appI_ wb _ B ((gb, .cells #[.slice An3 (([] : List Int) ++ [59]).length cn3] 34 (0, 0)) :: (po' ++ ((g1, .cells #[.slice Ax x.length cx] 76 (0, 0)) :: (opt go bp br :: (bs ++ L0))))) ht hT An3 cn3 ((x.length : Nat) : Int) (([] : List Int) ++ [59]) own3 hn3 H.mid (by have := wq.nDigits_le (u := x.length) (k := 18) (by omega); omega) (by simp only [List.length_append, List.length_cons, List.length_nil, wq.dec_len, ints_len]; have := wq.nDigits_le (u := x.length) (k := 18) (by omega); omega)
 refine l_call S rfl rfl Tryz.func106 rfl rfl hcon rfl rfl rfl ?_
 rintro e w ⟨An4, cn4, own4, rfl, hn4, hH⟩
 refine ⟨_, rfl, ?_⟩; clear S a; intro a S; clear H hcon; have H := hH.unmid; clear hH
 rw [mw.sdec_nat] at S hn4
 refine l_mv 1 S rfl ?_; clear S a; intro a S
 refine l_store S H rfl rfl rfl .here (by first | decide | simp [Value.cells]) (fun w u hc hz => st1 sz34 rfl hc hz) rfl rfl ?_; clear S a H; intro w a H S
 refine l_nil ?_
 refine e_then ?_
 refine wp_seq ?_
 refine d_start (id := 6) [5, 7] 8 #[false, false, false, false, false, false, false, false] H rfl rfl rfl (fun w H => ?_)
 refine d_pure (i := 0) #[true, false, false, false, false, false, false, false] S rfl (p_move rfl) (wanted_none rfl) rfl rfl (by kernel_rfl) hq126 ?_; clear S a; intro a S
 refine d_pure (i := 1) #[true, true, false, false, false, false, false, false] S rfl (p_move rfl) (wanted_none rfl) rfl rfl (by kernel_rfl) hq126 ?_; clear S a; intro a S
 refine d_pure (i := 2) #[true, true, true, false, false, false, false, false] S rfl (p_nilCheck rfl) (wanted_none rfl) rfl rfl (by kernel_rfl) hq126 ?_; clear S a; intro a S
 refine d_read (i := 3) #[true, true, true, true, false, false, false, false] S H rfl (r_load rfl List.mem_cons_self rfl (fun w hc => ld1 ag34 hc)) (wanted_none rfl) rfl rfl (by kernel_rfl) hq126 ?_; clear S a; intro a S
 have hcon := delim_ wb _ B _ H
 refine d_call (i := 4) #[true, true, true, true, true, false, false, false] S rfl rfl rfl Tryz.func107 rfl rfl hcon (wanted_none rfl) rfl rfl (by kernel_rfl) rfl ?_
 rintro e w ⟨gd5, rfl, hH⟩; refine ⟨_, rfl, hH.tail, ?_⟩; clear hcon H; have H := hH; clear hH; clear S a; intro a S
 refine d_ownB (i := 5) [_, _] (xs := ((([] : List Int) ++ [59]) ++ wq.dec x.length)) (r := [13, 10]) #[true, true, true, true, true, true, false, false] S H rfl rfl rfl rfl hn4 (src_lit (vs := ([13, 10]).map (Value.int .u8)) H List.mem_cons_self Tryz.underlying34 (by simp [Value.oneCell'])) Tryz.underlying34 in5 rfl (by simp only [List.length_append, List.length_cons, List.length_nil, wq.dec_len, ints_len]; have := wq.nDigits_le (u := x.length) (k := 18) (by omega); omega) (by decide) (wanted_none rfl) rfl rfl (by kernel_rfl) rfl ?_; clear S a H; intro An6 cn6 own6 w a hn6 H S
 replace H := H.tail
 replace H : HH B wb _ ((gb, .cells #[.slice An4 ((([] : List Int) ++ [59]) ++ wq.dec x.length).length cn4] 34 (0, 0)) :: (own6 ++ (po' ++ ((g1, .cells #[.slice Ax x.length cx] 76 (0, 0)) :: (opt go bp br :: (bs ++ L0)))))) := H
 refine d_pure (i := 6) #[true, true, true, true, true, true, true, false] S rfl (p_nilCheck rfl) (wanted_none rfl) rfl rfl (by kernel_rfl) hq126 ?_; clear S a; intro a S
 refine d_store (i := 7) #[true, true, true, true, true, true, true, true] S H rfl rfl rfl rfl .here (by first | decide | simp [Value.cells]) (fun w u hc hz => st1 sz34 rfl hc hz) (wanted_none rfl) rfl (by kernel_rfl) rfl ?_; clear S a H; intro w a H S
 refine d_done (by kernel_rfl) ?_
 refine e_then ?_
 refine wp_seq ?_
 refine wp_seq ?_
 refine c_region ?_
 refine l_mv 1 S rfl ?_; clear S a; intro a S
 refine l_pure S (p_gtr rfl rfl) rfl rfl rfl ?_; clear S a; intro a S
 refine l_nil ?_
 refine e_then ?_
 refine c_cond S rfl (fun c8 => ?_) (fun c8 => by have c8 := of_decide_eq_false c8; exfalso; omega)
 have c8 := of_decide_eq_true c8
 refine wp_seq ?_
 refine d_start (id := 8) [6, 8] 9 #[false, false, false, false, false, false, false, false, false] H rfl rfl rfl (fun w H => ?_)
 refine d_pure (i := 0) #[true, false, false, false, false, false, false, false, false] S rfl (p_move rfl) (wanted_none rfl) rfl rfl (by kernel_rfl) hq126 ?_; clear S a; intro a S
 refine d_pure (i := 1) #[true, true, false, false, false, false, false, false, false] S rfl (p_move rfl) (wanted_none rfl) rfl rfl (by kernel_rfl) hq126 ?_; clear S a; intro a S
 refine d_pure (i := 2) #[true, true, true, false, false, false, false, false, false] S rfl (p_nilCheck rfl) (wanted_none rfl) rfl rfl (by kernel_rfl) hq126 ?_; clear S a; intro a S
 refine d_read (i := 3) #[true, true, true, true, false, false, false, false, false] S H rfl (r_load rfl List.mem_cons_self rfl (fun w hc => ld1 ag34 hc)) (wanted_none rfl) rfl rfl (by kernel_rfl) hq126 ?_; clear S a; intro a S
 refine d_pure (i := 4) #[true, true, true, true, true, false, false, false, false] S rfl (p_fieldAddr rfl (fun w => fa76_0 w _ _)) (wanted_none rfl) rfl rfl (by kernel_rfl) hq126 ?_; clear S a; intro a S
 refine d_read (i := 5) #[true, true, true, true, true, true, false, false, false] S H rfl (r_load rfl (List.mem_cons_of_mem _ (List.mem_append_right _ (List.mem_append_right _ List.mem_cons_self))) rfl (fun w hc => ld1 ag34 hc)) (wanted_none rfl) rfl rfl (by kernel_rfl) hq126 ?_; clear S a; intro a S
 refine d_ownB (i := 6) [_] (xs := (((([] : List Int) ++ [59]) ++ wq.dec x.length) ++ [13, 10])) (r := x) #[true, true, true, true, true, true, true, false, false] S H rfl rfl rfl rfl hn6 (mw.own_src hox (fun p hp => by have := hsx p hp; simp [this]) H Tryz.underlying34) Tryz.underlying34 in5 rfl (by simp only [List.length_append, List.length_cons, List.length_nil, wq.dec_len, ints_len]; have := wq.nDigits_le (u := x.length) (k := 18) (by omega); omega) (by decide) (wanted_none rfl) rfl rfl (by kernel_rfl) rfl ?_; clear S a H; intro An9 cn9 own9 w a hn9 H S
 replace H : HH B wb _ ((gb, .cells #[.slice An6 (((([] : List Int) ++ [59]) ++ wq.dec x.length) ++ [13, 10]).length cn6] 34 (0, 0)) :: (own9 ++ (po' ++ ((g1, .cells #[.slice Ax x.length cx] 76 (0, 0)) :: (opt go bp br :: (bs ++ L0)))))) := H
 refine d_pure (i := 7) #[true, true, true, true, true, true, true, true, false] S rfl (p_nilCheck rfl) (wanted_none rfl) rfl rfl (by kernel_rfl) hq126 ?_; clear S a; intro a S
 refine d_store (i := 8) #[true, true, true, true, true, true, true, true, true] S H rfl rfl rfl rfl .here (by first | decide | simp [Value.cells]) (fun w u hc hz => st1 sz34 rfl hc hz) (wanted_none rfl) rfl (by kernel_rfl) rfl ?_; clear S a H; intro w a H S
 refine d_done (by kernel_rfl) ?_
 refine e_then ?_
 refine d_start (id := 9) [5, 7] 8 #[false, false, false, false, false, false, false, false] H rfl rfl rfl (fun w H => ?_)
 refine d_pure (i := 0) #[true, false, false, false, false, false, false, false] S rfl (p_move rfl) (wanted_none rfl) rfl rfl (by kernel_rfl) hq126 ?_; clear S a; intro a S
 refine d_pure (i := 1) #[true, true, false, false, false, false, false, false] S rfl (p_move rfl) (wanted_none rfl) rfl rfl (by kernel_rfl) hq126 ?_; clear S a; intro a S
 refine d_pure (i := 2) #[true, true, true, false, false, false, false, false] S rfl (p_nilCheck rfl) (wanted_none rfl) rfl rfl (by kernel_rfl) hq126 ?_; clear S a; intro a S
 refine d_read (i := 3) #[true, true, true, true, false, false, false, false] S H rfl (r_load rfl List.mem_cons_self rfl (fun w hc => ld1 ag34 hc)) (wanted_none rfl) rfl rfl (by kernel_rfl) hq126 ?_; clear S a; intro a S
 have hcon := delim_ wb _ B _ H
 refine d_call (i := 4) #[true, true, true, true, true, false, false, false] S rfl rfl rfl Tryz.func107 rfl rfl hcon (wanted_none rfl) rfl rfl (by kernel_rfl) rfl ?_
 rintro e w ⟨gd10, rfl, hH⟩; refine ⟨_, rfl, hH.tail, ?_⟩; clear hcon H; have H := hH; clear hH; clear S a; intro a S
 refine d_ownB (i := 5) [_, _] (xs := ((((([] : List Int) ++ [59]) ++ wq.dec x.length) ++ [13, 10]) ++ x)) (r := [13, 10]) #[true, true, true, true, true, true, false, false] S H rfl rfl rfl rfl hn9 (src_lit (vs := ([13, 10]).map (Value.int .u8)) H List.mem_cons_self Tryz.underlying34 (by simp [Value.oneCell'])) Tryz.underlying34 in5 rfl (by simp only [List.length_append, List.length_cons, List.length_nil, wq.dec_len, ints_len]; have := wq.nDigits_le (u := x.length) (k := 18) (by omega); omega) (by decide) (wanted_none rfl) rfl rfl (by kernel_rfl) rfl ?_; clear S a H; intro An11 cn11 own11 w a hn11 H S
 replace H := H.tail
 replace H : HH B wb _ ((gb, .cells #[.slice An9 ((((([] : List Int) ++ [59]) ++ wq.dec x.length) ++ [13, 10]) ++ x).length cn9] 34 (0, 0)) :: (own11 ++ (po' ++ ((g1, .cells #[.slice Ax x.length cx] 76 (0, 0)) :: (opt go bp br :: (bs ++ L0)))))) := H
 refine d_pure (i := 6) #[true, true, true, true, true, true, true, false] S rfl (p_nilCheck rfl) (wanted_none rfl) rfl rfl (by kernel_rfl) hq126 ?_; clear S a; intro a S
 refine d_store (i := 7) #[true, true, true, true, true, true, true, true] S H rfl rfl rfl rfl .here (by first | decide | simp [Value.cells]) (fun w u hc hz => st1 sz34 rfl hc hz) (wanted_none rfl) rfl (by kernel_rfl) rfl ?_; clear S a H; intro w a H S
 refine d_done (by kernel_rfl) ?_
 refine e_then ?_
 refine wp_seq ?_
 refine d_start (id := 10) [6] 12 #[false, false, false, false, false, false, false, false, false, false, false, false] H rfl rfl rfl (fun w H => ?_)
 refine d_pure (i := 0) #[true, false, false, false, false, false, false, false, false, false, false, false] S rfl (p_move rfl) (wanted_none rfl) rfl rfl (by kernel_rfl) hq126 ?_; clear S a; intro a S
 refine d_pure (i := 1) #[true, true, false, false, false, false, false, false, false, false, false, false] S rfl (p_move rfl) (wanted_none rfl) rfl rfl (by kernel_rfl) hq126 ?_; clear S a; intro a S
 refine d_pure (i := 2) #[true, true, true, false, false, false, false, false, false, false, false, false] S rfl (p_nilCheck rfl) (wanted_none rfl) rfl rfl (by kernel_rfl) hq126 ?_; clear S a; intro a S
 refine d_read (i := 3) #[true, true, true, true, false, false, false, false, false, false, false, false] S H rfl (r_load rfl List.mem_cons_self rfl (fun w hc => ld1 ag34 hc)) (wanted_none rfl) rfl rfl (by kernel_rfl) hq126 ?_; clear S a; intro a S
 refine d_pure (i := 4) #[true, true, true, true, true, false, false, false, false, false, false, false] S rfl (p_nilCheckI rfl) (wanted_none rfl) rfl rfl (by kernel_rfl) hq126 ?_; clear S a; intro a S
 refine d_pure (i := 5) #[true, true, true, true, true, true, false, false, false, false, false, false] S rfl (p_move rfl) (wanted_none rfl) rfl rfl (by kernel_rfl) hq126 ?_; clear S a; intro a S
 obtain ⟨gr, cr, fr, rfl, rfl, hlc, hcr, hth, hrow⟩ := rp.own_open hn11 (by simp only [List.length_append, List.length_cons, List.length_nil]; omega)
 replace H : HH B wb _ ((gb, .cells #[.slice (some ⟨gr, 0, none⟩) (((((([] : List Int) ++ [59]) ++ wq.dec x.length) ++ [13, 10]) ++ x) ++ [13, 10]).length cn11] 34 (0, 0)) :: ((gr, .cells cr 5 fr) :: (po' ++ ((g1, .cells #[.slice Ax x.length cx] 76 (0, 0)) :: (opt go bp br :: (bs ++ L0)))))) := H
 have H2 := HH.front (L1 := ((gb, .cells #[.slice (some ⟨gr, 0, none⟩) (((((([] : List Int) ++ [59]) ++ wq.dec x.length) ++ [13, 10]) ++ x) ++ [13, 10]).length cn11] 34 (0, 0)) :: ((gr, .cells cr 5 fr) :: (po' ++ ((g1, .cells #[.slice Ax x.length cx] 76 (0, 0)) :: [opt go bp br]))))) (S := bs) (L2 := L0) (HH.app H (by simp))
 have hcon := wr.bb.write_ wb _ B (((gb, .cells #[.slice (some ⟨gr, 0, none⟩) (((((([] : List Int) ++ [59]) ++ wq.dec x.length) ++ [13, 10]) ++ x) ++ [13, 10]).length cn11] 34 (0, 0)) :: ((gr, .cells cr 5 fr) :: (po' ++ ((g1, .cells #[.slice Ax x.length cx] 76 (0, 0)) :: [opt go bp br])))) ++ L0) b l bs hz gr 0 cn11 cr fr (((((([] : List Int) ++ [59]) ++ wq.dec x.length) ++ [13, 10]) ++ x) ++ [13, 10]) (by simp) hrow (by simp only [List.length_append, List.length_cons, List.length_nil]; omega) H2 (by simp only [List.length_append, List.length_cons, List.length_nil, wq.dec_len, ints_len]; have := wq.nDigits_le (u := x.length) (k := 18) (by omega); omega)
 refine d_invoke_last (i := 6) #[true, true, true, true, true, true, true, false, false, false, false, false] S rfl rfl rfl rfl (meW _ _) Tryz.func157 rfl rfl hcon (wanted_none rfl) rfl rfl (by kernel_rfl) rfl ?_
 rintro e w ⟨rfl, bs2, hz2, hH⟩
 refine ⟨_, rfl, ?_⟩; clear S a; intro a S; clear H H2 hcon
 have H : HH B wb w ((gb, .cells #[.slice (some ⟨gr, 0, none⟩) (((((([] : List Int) ++ [59]) ++ wq.dec x.length) ++ [13, 10]) ++ x) ++ [13, 10]).length cn11] 34 (0, 0)) :: ((gr, .cells cr 5 fr) :: (po' ++ ((g1, .cells #[.slice Ax x.length cx] 76 (0, 0)) :: (opt go bp br :: (bs2 ++ L0)))))) := HH.app (HH.front (L1 := bs2) (S := ((gb, .cells #[.slice (some ⟨gr, 0, none⟩) (((((([] : List Int) ++ [59]) ++ wq.dec x.length) ++ [13, 10]) ++ x) ++ [13, 10]).length cn11] 34 (0, 0)) :: ((gr, .cells cr 5 fr) :: (po' ++ ((g1, .cells #[.slice Ax x.length cx] 76 (0, 0)) :: [opt go bp br]))))) (L2 := L0) hH) (by simp)
 clear hH
 refine d_pure (i := 7) #[true, true, true, true, true, true, true, true, false, false, false, false] S rfl (p_move rfl) (wanted_none rfl) rfl rfl (by kernel_rfl) hq126 ?_; clear S a; intro a S
 refine d_pure (i := 8) #[true, true, true, true, true, true, true, true, true, false, false, false] S rfl (p_extract rfl rfl) (wanted_none rfl) rfl rfl (by kernel_rfl) hq126 ?_; clear S a; intro a S
 refine d_pure (i := 9) #[true, true, true, true, true, true, true, true, true, true, false, false] S rfl (p_extract rfl rfl) (wanted_none rfl) rfl rfl (by kernel_rfl) hq126 ?_; clear S a; intro a S
 refine d_pure (i := 10) #[true, true, true, true, true, true, true, true, true, true, true, false] S rfl (p_assign rfl) (wanted_none rfl) rfl rfl (by kernel_rfl) hq126 ?_; clear S a; intro a S
 refine d_pure (i := 11) #[true, true, true, true, true, true, true, true, true, true, true, true] S rfl (p_assign rfl) (wanted_none rfl) rfl rfl (by kernel_rfl) hq126 ?_; clear S a; intro a S
 refine d_done (by kernel_rfl) ?_
 refine e_then ?_
 refine wp_seq ?_
 refine c_region ?_
 refine l_mv 2 S rfl ?_; clear S a; intro a S
 refine l_nil ?_
 refine e_then ?_
 refine wp_ret ?_
 refine r_doorA S (wr.pl.put_ wb _ B ((g1, .cells #[.slice Ax x.length cx] 76 (0, 0)) :: (opt go bp br :: (bs2 ++ L0))) bp gb cn11 (some ⟨gr, 0, none⟩) (((((([] : List Int) ++ [59]) ++ wq.dec x.length) ++ [13, 10]) ++ x) ++ [13, 10]) po' [(gr, .cells cr 5 fr)] hp' hn11 H) (invokesA (vs := [.pointer (some ⟨bp, 0, none⟩), .pointer (some ⟨gb, 0, none⟩)]) (caps := []) Tryz.func24 rfl rfl) (fun w' _ => res_t1 rfl rfl) ?_
 rintro w' ⟨po2, hp2, hH⟩
 have H3 := HH.front (L1 := po2) (S := ((g1, .cells #[.slice Ax x.length cx] 76 (0, 0)) :: [opt go bp br])) (L2 := bs2 ++ L0) (HH.app hH (by simp))
 exact ⟨rfl, _, ⟨br, po2, bs2, hp2, by simpa [mw.bl] using hz2, rfl⟩, HH.app (L := (opt go bp br :: (po2 ++ (bs2 ++ L0)))) (L' := (opt go bp br :: (po2 ++ bs2)) ++ L0) (HH.app (L' := ((g1, .cells #[.slice Ax x.length cx] 76 (0, 0)) :: (opt go bp br :: (po2 ++ (bs2 ++ L0))))) H3 (by simp)).tail (by simp)⟩
set_option maxHeartbeats 1000000 in
theorem chb0_ (wb w0 : World) (B : Nat) (L0 : dc.Bk) (go bp b : Nat) (l : List Int) (ls : List (Nat × Obj)) (hE : Env go bp b l ls) (ht : Lib.TabBelow Tryz.prog B wb "internal/strconv.uint64pow10" .u64 Lib.pow10Tab) (hT : fz.PTab 3 B wb) (H : HH B wb w0 (ls ++ L0)) (hl : l.length ≤ 10000000) (Ax : Option Addr) (cx : Nat) (x : List Int) (ox : List (Nat × Obj)) (hox : OwnB 5 (.slice Ax x.length cx) x ox) (hsx : ∀ p ∈ ox, p ∈ L0) (hx : x.length ≤ 10000000) (h0 : x.length = 0) : Calls Tryz.prog 126 #[.agg #[.slice Ax x.length cx], .iface 46 (.pointer (some ⟨b, 0, none⟩)), .pointer (some ⟨go, 0, none⟩)] w0 fun e w' => e = .returned .nilIface ∧ ∃ ls', Env go bp b (l ++ (59 :: (wq.dec x.length ++ [13, 10] ++ ([])))) ls' ∧ HH B wb w' (ls' ++ L0) := by
 obtain ⟨br, po, bs, hp, hz, rfl⟩ := hE
 replace H : HH B wb w0 (opt go bp br :: (po ++ (bs ++ L0))) := HH.app H (by simp)
 refine c_enter_d (args := [.agg #[.slice Ax x.length cx], .iface 46 (.pointer (some ⟨b, 0, none⟩)), .pointer (some ⟨go, 0, none⟩)]) (k := 70) Tryz.func126 rfl rfl rfl (fun a S => ?_)
 refine wp_seq ?_
 refine c_region ?_
 refine l_box (cs := #[.slice Ax x.length cx]) S H rfl rfl (fun w => bx) rfl rfl rfl ?_; clear S a H; intro g1 w a H S
 refine l_mv 1 S rfl ?_; clear S a; intro a S
 refine l_nil ?_
 refine e_then ?_
 refine wp_seq ?_
 refine c_region ?_
 refine l_mv 2 S rfl ?_; clear S a; intro a S
 refine l_pure S (p_fieldAddr rfl (fun w => fa102_0 w _ _)) rfl rfl rfl ?_; clear S a; intro a S
 refine l_read S H (r_load rfl (List.mem_cons_of_mem _ List.mem_cons_self) rfl (fun w hc => ld1 ag84 hc)) rfl rfl rfl ?_; clear S a; intro a S
 replace H : HH B wb _ ((g1, .cells #[.slice Ax x.length cx] 76 (0, 0)) :: (opt go bp br :: (po ++ (bs ++ L0)))) := H
 replace H : HH B wb _ (po ++ ((g1, .cells #[.slice Ax x.length cx] 76 (0, 0)) :: (opt go bp br :: (bs ++ L0)))) := HH.app (HH.front (L1 := ((g1, .cells #[.slice Ax x.length cx] 76 (0, 0)) :: [opt go bp br])) (S := po) (L2 := (bs ++ L0)) (HH.app H (by simp))) (by simp)
 have hcon := wr.pl.get_ wb _ B ((g1, .cells #[.slice Ax x.length cx] 76 (0, 0)) :: (opt go bp br :: (bs ++ L0))) bp po hp H
 refine l_callv (us := [.pointer (some ⟨bp, 0, none⟩)]) (cs := []) S rfl rfl rfl Tryz.func23 rfl rfl hcon rfl rfl rfl ?_
 rintro e w ⟨po', hp', gb, A0, c0, ow0, rfl, hown0, hH⟩
 refine ⟨_, rfl, ?_⟩; clear S a; intro a S; clear H hcon; have H := hH; clear hH
 refine l_mv 1 S rfl ?_; clear S a; intro a S
 refine l_nil ?_
 refine e_then ?_
 refine wp_seq ?_
 refine c_region ?_
 refine l_mv 2 S rfl ?_; clear S a; intro a S
 refine l_pure S (p_fieldAddr rfl (fun w => fa102_1 w _ _)) rfl rfl rfl ?_; clear S a; intro a S
 refine l_read S H (r_load rfl (List.mem_cons_of_mem _ (List.mem_append_right _ (List.mem_append_right _ (List.mem_cons_of_mem _ List.mem_cons_self)))) rfl (fun w hc => ld1 ag85 hc)) rfl rfl rfl ?_; clear S a; intro a S
 refine l_mv 1 S rfl ?_; clear S a; intro a S
 refine l_defer (xs := [.tmp 20]) (us := [.pointer (some ⟨bp, 0, none⟩)]) (cs := []) (vs := [.pointer (some ⟨gb, 0, none⟩)]) S rfl rfl rfl rfl rfl ?_; clear S a; intro a S
 refine l_nil ?_
 refine e_then ?_
 refine wp_seq ?_
 refine c_region ?_
 refine l_pure S (p_fieldAddr rfl (fun w => fa76_0 w _ _)) rfl rfl rfl ?_; clear S a; intro a S
 refine l_read S H (r_load rfl (List.mem_cons_of_mem _ (List.mem_append_right _ (List.mem_append_right _ List.mem_cons_self))) rfl (fun w hc => ld1 ag34 hc)) rfl rfl rfl ?_; clear S a; intro a S
 refine l_pure S (p_len Tryz.underlying34 rfl) rfl rfl rfl ?_; clear S a; intro a S
 refine l_mv 1 S rfl ?_; clear S a; intro a S
 refine l_nil ?_
 refine e_then ?_
 refine wp_seq ?_
 refine c_region ?_
 refine l_mv 3 S rfl ?_; clear S a; intro a S
 refine l_read S H (r_load rfl List.mem_cons_self rfl (fun w hc => ld1 ag34 hc)) rfl rfl rfl ?_; clear S a; intro a S
 refine l_lit [(.const (.int .u8 59))] S H rfl rfl Tryz.underlying34 sz5 zv5 rfl rfl (by simp [Value.cells]) rfl rfl rfl ?_; clear S a H; intro g2 w a H S
 refine l_ownB [_, _] (l := ([] : List Int)) (r := [59]) S H rfl rfl rfl hown0 (src_lit (vs := ([59]).map (Value.int .u8)) H List.mem_cons_self Tryz.underlying34 (by simp [Value.oneCell'])) Tryz.underlying34 in5 rfl (by simp only [List.length_append, List.length_cons, List.length_nil, wq.dec_len, ints_len]; have := wq.nDigits_le (u := x.length) (k := 18) (by omega); omega) (by decide) rfl rfl rfl ?_; clear S a H; intro An3 cn3 own3 w a hn3 H S
 replace H := H.tail
 replace H : HH B wb _ ((gb, .cells #[.slice A0 ([] : List Int).length c0] 34 (0, 0)) :: (own3 ++ (po' ++ ((g1, .cells #[.slice Ax x.length cx] 76 (0, 0)) :: (opt go bp br :: (bs ++ L0)))))) := H
 refine l_mv 1 S rfl ?_; clear S a; intro a S
 refine l_store S H rfl rfl rfl .here (by first | decide | simp [Value.cells]) (fun w u hc hz => st1 sz34 rfl hc hz) rfl rfl ?_; clear S a H; intro w a H S
 refine l_nil ?_
 refine e_then ?_
 refine wp_seq ?_
 refine c_region ?_
 refine l_mv 3 S rfl ?_; clear S a; intro a S
 refine l_read S H (r_load rfl List.mem_cons_self rfl (fun w hc => ld1 ag34 hc)) rfl rfl rfl ?_; clear S a; intro a S
 refine l_mv 1 S rfl ?_; clear S a; intro a S
 have hcon := nm.appI_ wb _ B ((gb, .cells #[.slice An3 (([] : List Int) ++ [59]).length cn3] 34 (0, 0)) :: (po' ++ ((g1, .cells #[.slice Ax x.length cx] 76 (0, 0)) :: (opt go bp br :: (bs ++ L0))))) ht hT An3 cn3 ((x.length : Nat) : Int) (([] : List Int) ++ [59]) own3 hn3 H.mid (by have := wq.nDigits_le (u := x.length) (k := 18) (by omega); omega) (by simp only [List.length_append, List.length_cons, List.length_nil, wq.dec_len, ints_len]; have := wq.nDigits_le (u := x.length) (k := 18) (by omega); omega)
 refine l_call S rfl rfl Tryz.func106 rfl rfl hcon rfl rfl rfl ?_
 rintro e w ⟨An4, cn4, own4, rfl, hn4, hH⟩
 refine ⟨_, rfl, ?_⟩; clear S a; intro a S; clear H hcon; have H := hH.unmid; clear hH
 rw [mw.sdec_nat] at S hn4
 refine l_mv 1 S rfl ?_; clear S a; intro a S
 refine l_store S H rfl rfl rfl .here (by first | decide | simp [Value.cells]) (fun w u hc hz => st1 sz34 rfl hc hz) rfl rfl ?_; clear S a H; intro w a H S
 refine l_nil ?_
 refine e_then ?_
 refine wp_seq ?_
 refine d_start (id := 6) [5, 7] 8 #[false, false, false, false, false, false, false, false] H rfl rfl rfl (fun w H => ?_)
 refine d_pure (i := 0) #[true, false, false, false, false, false, false, false] S rfl (p_move rfl) (wanted_none rfl) rfl rfl (by kernel_rfl) hq126 ?_; clear S a; intro a S
 refine d_pure (i := 1) #[true, true, false, false, false, false, false, false] S rfl (p_move rfl) (wanted_none rfl) rfl rfl (by kernel_rfl) hq126 ?_; clear S a; intro a S
 refine d_pure (i := 2) #[true, true, true, false, false, false, false, false] S rfl (p_nilCheck rfl) (wanted_none rfl) rfl rfl (by kernel_rfl) hq126 ?_; clear S a; intro a S
 refine d_read (i := 3) #[true, true, true, true, false, false, false, false] S H rfl (r_load rfl List.mem_cons_self rfl (fun w hc => ld1 ag34 hc)) (wanted_none rfl) rfl rfl (by kernel_rfl) hq126 ?_; clear S a; intro a S
 have hcon := delim_ wb _ B _ H
 refine d_call (i := 4) #[true, true, true, true, true, false, false, false] S rfl rfl rfl Tryz.func107 rfl rfl hcon (wanted_none rfl) rfl rfl (by kernel_rfl) rfl ?_
 rintro e w ⟨gd5, rfl, hH⟩; refine ⟨_, rfl, hH.tail, ?_⟩; clear hcon H; have H := hH; clear hH; clear S a; intro a S
 refine d_ownB (i := 5) [_, _] (xs := ((([] : List Int) ++ [59]) ++ wq.dec x.length)) (r := [13, 10]) #[true, true, true, true, true, true, false, false] S H rfl rfl rfl rfl hn4 (src_lit (vs := ([13, 10]).map (Value.int .u8)) H List.mem_cons_self Tryz.underlying34 (by simp [Value.oneCell'])) Tryz.underlying34 in5 rfl (by simp only [List.length_append, List.length_cons, List.length_nil, wq.dec_len, ints_len]; have := wq.nDigits_le (u := x.length) (k := 18) (by omega); omega) (by decide) (wanted_none rfl) rfl rfl (by kernel_rfl) rfl ?_; clear S a H; intro An6 cn6 own6 w a hn6 H S
 replace H := H.tail
 replace H : HH B wb _ ((gb, .cells #[.slice An4 ((([] : List Int) ++ [59]) ++ wq.dec x.length).length cn4] 34 (0, 0)) :: (own6 ++ (po' ++ ((g1, .cells #[.slice Ax x.length cx] 76 (0, 0)) :: (opt go bp br :: (bs ++ L0)))))) := H
 refine d_pure (i := 6) #[true, true, true, true, true, true, true, false] S rfl (p_nilCheck rfl) (wanted_none rfl) rfl rfl (by kernel_rfl) hq126 ?_; clear S a; intro a S
 refine d_store (i := 7) #[true, true, true, true, true, true, true, true] S H rfl rfl rfl rfl .here (by first | decide | simp [Value.cells]) (fun w u hc hz => st1 sz34 rfl hc hz) (wanted_none rfl) rfl (by kernel_rfl) rfl ?_; clear S a H; intro w a H S
 refine d_done (by kernel_rfl) ?_
 refine e_then ?_
 refine wp_seq ?_
 refine wp_seq ?_
 refine c_region ?_
 refine l_mv 1 S rfl ?_; clear S a; intro a S
 refine l_pure S (p_gtr rfl rfl) rfl rfl rfl ?_; clear S a; intro a S
 refine l_nil ?_
 refine e_then ?_
 refine c_cond S rfl (fun c8 => by have c8 := of_decide_eq_true c8; exfalso; omega) (fun c8 => ?_)
 have c8 := of_decide_eq_false c8
 refine wp_skip ?_
 refine e_then ?_
 refine wp_seq ?_
 refine d_start (id := 10) [6] 12 #[false, false, false, false, false, false, false, false, false, false, false, false] H rfl rfl rfl (fun w H => ?_)
 refine d_pure (i := 0) #[true, false, false, false, false, false, false, false, false, false, false, false] S rfl (p_move rfl) (wanted_none rfl) rfl rfl (by kernel_rfl) hq126 ?_; clear S a; intro a S
 refine d_pure (i := 1) #[true, true, false, false, false, false, false, false, false, false, false, false] S rfl (p_move rfl) (wanted_none rfl) rfl rfl (by kernel_rfl) hq126 ?_; clear S a; intro a S
 refine d_pure (i := 2) #[true, true, true, false, false, false, false, false, false, false, false, false] S rfl (p_nilCheck rfl) (wanted_none rfl) rfl rfl (by kernel_rfl) hq126 ?_; clear S a; intro a S
 refine d_read (i := 3) #[true, true, true, true, false, false, false, false, false, false, false, false] S H rfl (r_load rfl List.mem_cons_self rfl (fun w hc => ld1 ag34 hc)) (wanted_none rfl) rfl rfl (by kernel_rfl) hq126 ?_; clear S a; intro a S
 refine d_pure (i := 4) #[true, true, true, true, true, false, false, false, false, false, false, false] S rfl (p_nilCheckI rfl) (wanted_none rfl) rfl rfl (by kernel_rfl) hq126 ?_; clear S a; intro a S
 refine d_pure (i := 5) #[true, true, true, true, true, true, false, false, false, false, false, false] S rfl (p_move rfl) (wanted_none rfl) rfl rfl (by kernel_rfl) hq126 ?_; clear S a; intro a S
 obtain ⟨gr, cr, fr, rfl, rfl, hlc, hcr, hth, hrow⟩ := rp.own_open hn6 (by simp only [List.length_append, List.length_cons, List.length_nil]; omega)
 replace H : HH B wb _ ((gb, .cells #[.slice (some ⟨gr, 0, none⟩) (((([] : List Int) ++ [59]) ++ wq.dec x.length) ++ [13, 10]).length cn6] 34 (0, 0)) :: ((gr, .cells cr 5 fr) :: (po' ++ ((g1, .cells #[.slice Ax x.length cx] 76 (0, 0)) :: (opt go bp br :: (bs ++ L0)))))) := H
 have H2 := HH.front (L1 := ((gb, .cells #[.slice (some ⟨gr, 0, none⟩) (((([] : List Int) ++ [59]) ++ wq.dec x.length) ++ [13, 10]).length cn6] 34 (0, 0)) :: ((gr, .cells cr 5 fr) :: (po' ++ ((g1, .cells #[.slice Ax x.length cx] 76 (0, 0)) :: [opt go bp br]))))) (S := bs) (L2 := L0) (HH.app H (by simp))
 have hcon := wr.bb.write_ wb _ B (((gb, .cells #[.slice (some ⟨gr, 0, none⟩) (((([] : List Int) ++ [59]) ++ wq.dec x.length) ++ [13, 10]).length cn6] 34 (0, 0)) :: ((gr, .cells cr 5 fr) :: (po' ++ ((g1, .cells #[.slice Ax x.length cx] 76 (0, 0)) :: [opt go bp br])))) ++ L0) b l bs hz gr 0 cn6 cr fr (((([] : List Int) ++ [59]) ++ wq.dec x.length) ++ [13, 10]) (by simp) hrow (by simp only [List.length_append, List.length_cons, List.length_nil]; omega) H2 (by simp only [List.length_append, List.length_cons, List.length_nil, wq.dec_len, ints_len]; have := wq.nDigits_le (u := x.length) (k := 18) (by omega); omega)
 refine d_invoke_last (i := 6) #[true, true, true, true, true, true, true, false, false, false, false, false] S rfl rfl rfl rfl (meW _ _) Tryz.func157 rfl rfl hcon (wanted_none rfl) rfl rfl (by kernel_rfl) rfl ?_
 rintro e w ⟨rfl, bs2, hz2, hH⟩
 refine ⟨_, rfl, ?_⟩; clear S a; intro a S; clear H H2 hcon
 have H : HH B wb w ((gb, .cells #[.slice (some ⟨gr, 0, none⟩) (((([] : List Int) ++ [59]) ++ wq.dec x.length) ++ [13, 10]).length cn6] 34 (0, 0)) :: ((gr, .cells cr 5 fr) :: (po' ++ ((g1, .cells #[.slice Ax x.length cx] 76 (0, 0)) :: (opt go bp br :: (bs2 ++ L0)))))) := HH.app (HH.front (L1 := bs2) (S := ((gb, .cells #[.slice (some ⟨gr, 0, none⟩) (((([] : List Int) ++ [59]) ++ wq.dec x.length) ++ [13, 10]).length cn6] 34 (0, 0)) :: ((gr, .cells cr 5 fr) :: (po' ++ ((g1, .cells #[.slice Ax x.length cx] 76 (0, 0)) :: [opt go bp br]))))) (L2 := L0) hH) (by simp)
 clear hH
 refine d_pure (i := 7) #[true, true, true, true, true, true, true, true, false, false, false, false] S rfl (p_move rfl) (wanted_none rfl) rfl rfl (by kernel_rfl) hq126 ?_; clear S a; intro a S
 refine d_pure (i := 8) #[true, true, true, true, true, true, true, true, true, false, false, false] S rfl (p_extract rfl rfl) (wanted_none rfl) rfl rfl (by kernel_rfl) hq126 ?_; clear S a; intro a S
 refine d_pure (i := 9) #[true, true, true, true, true, true, true, true, true, true, false, false] S rfl (p_extract rfl rfl) (wanted_none rfl) rfl rfl (by kernel_rfl) hq126 ?_; clear S a; intro a S
 refine d_pure (i := 10) #[true, true, true, true, true, true, true, true, true, true, true, false] S rfl (p_assign rfl) (wanted_none rfl) rfl rfl (by kernel_rfl) hq126 ?_; clear S a; intro a S
 refine d_pure (i := 11) #[true, true, true, true, true, true, true, true, true, true, true, true] S rfl (p_assign rfl) (wanted_none rfl) rfl rfl (by kernel_rfl) hq126 ?_; clear S a; intro a S
 refine d_done (by kernel_rfl) ?_
 refine e_then ?_
 refine wp_seq ?_
 refine c_region ?_
 refine l_mv 2 S rfl ?_; clear S a; intro a S
 refine l_nil ?_
 refine e_then ?_
 refine wp_ret ?_
 refine r_doorA S (wr.pl.put_ wb _ B ((g1, .cells #[.slice Ax x.length cx] 76 (0, 0)) :: (opt go bp br :: (bs2 ++ L0))) bp gb cn6 (some ⟨gr, 0, none⟩) (((([] : List Int) ++ [59]) ++ wq.dec x.length) ++ [13, 10]) po' [(gr, .cells cr 5 fr)] hp' hn6 H) (invokesA (vs := [.pointer (some ⟨bp, 0, none⟩), .pointer (some ⟨gb, 0, none⟩)]) (caps := []) Tryz.func24 rfl rfl) (fun w' _ => res_t1 rfl rfl) ?_
 rintro w' ⟨po2, hp2, hH⟩
 have H3 := HH.front (L1 := po2) (S := ((g1, .cells #[.slice Ax x.length cx] 76 (0, 0)) :: [opt go bp br])) (L2 := bs2 ++ L0) (HH.app hH (by simp))
 exact ⟨rfl, _, ⟨br, po2, bs2, hp2, by simpa [mw.bl] using hz2, rfl⟩, HH.app (L := (opt go bp br :: (po2 ++ (bs2 ++ L0)))) (L' := (opt go bp br :: (po2 ++ bs2)) ++ L0) (HH.app (L' := ((g1, .cells #[.slice Ax x.length cx] 76 (0, 0)) :: (opt go bp br :: (po2 ++ (bs2 ++ L0))))) H3 (by simp)).tail (by simp)⟩
set_option maxHeartbeats 1000000 in
theorem dbl0_ (wb w0 : World) (B : Nat) (L0 : dc.Bk) (go bp b : Nat) (l : List Int) (ls : List (Nat × Obj)) (hE : Env go bp b l ls) (ht : Lib.TabBelow Tryz.prog B wb "internal/strconv.uint64pow10" .u64 Lib.pow10Tab) (hT : fz.PTab 3 B wb) (H : HH B wb w0 (ls ++ L0)) (hl : l.length ≤ 10000000) (f : Nat) (hf : f < 18446744073709551616) (h1 : mw.isInf1 f = true) : Calls Tryz.prog 115 #[.agg #[.float .f64 f], .iface 46 (.pointer (some ⟨b, 0, none⟩)), .pointer (some ⟨go, 0, none⟩)] w0 fun e w' => e = .returned .nilIface ∧ ∃ ls', Env go bp b (l ++ (44 :: ([105, 110, 102] ++ [13, 10]))) ls' ∧ HH B wb w' (ls' ++ L0) := by
 obtain ⟨br, po, bs, hp, hz, rfl⟩ := hE
 replace H : HH B wb w0 (opt go bp br :: (po ++ (bs ++ L0))) := HH.app H (by simp)
 refine c_enter (args := [.agg #[.float .f64 f], .iface 46 (.pointer (some ⟨b, 0, none⟩)), .pointer (some ⟨go, 0, none⟩)]) (k := 70) Tryz.func115 rfl rfl rfl (fun a S => ?_)
 refine wp_seq ?_
 refine c_region ?_
 refine l_box (cs := #[.float .f64 f]) S H rfl rfl (fun w => bx) rfl rfl rfl ?_; clear S a H; intro g1 w a H S
 refine l_mv 1 S rfl ?_; clear S a; intro a S
 refine l_nil ?_
 refine e_then ?_
 refine wp_seq ?_
 refine c_region ?_
 refine l_mv 2 S rfl ?_; clear S a; intro a S
 refine l_pure S (p_fieldAddr rfl (fun w => fa102_0 w _ _)) rfl rfl rfl ?_; clear S a; intro a S
 refine l_read S H (r_load rfl (List.mem_cons_of_mem _ List.mem_cons_self) rfl (fun w hc => ld1 ag84 hc)) rfl rfl rfl ?_; clear S a; intro a S
 replace H : HH B wb _ ((g1, .cells #[.float .f64 f] 67 (0, 0)) :: (opt go bp br :: (po ++ (bs ++ L0)))) := H
 replace H : HH B wb _ (po ++ ((g1, .cells #[.float .f64 f] 67 (0, 0)) :: (opt go bp br :: (bs ++ L0)))) := HH.app (HH.front (L1 := ((g1, .cells #[.float .f64 f] 67 (0, 0)) :: [opt go bp br])) (S := po) (L2 := (bs ++ L0)) (HH.app H (by simp))) (by simp)
 have hcon := wr.pl.get_ wb _ B ((g1, .cells #[.float .f64 f] 67 (0, 0)) :: (opt go bp br :: (bs ++ L0))) bp po hp H
 refine l_callv (us := [.pointer (some ⟨bp, 0, none⟩)]) (cs := []) S rfl rfl rfl Tryz.func23 rfl rfl hcon rfl rfl rfl ?_
 rintro e w ⟨po', hp', gb, A0, c0, ow0, rfl, hown0, hH⟩
 refine ⟨_, rfl, ?_⟩; clear S a; intro a S; clear H hcon; have H := hH; clear hH
 refine l_mv 1 S rfl ?_; clear S a; intro a S
 refine l_nil ?_
 refine e_then ?_
 refine wp_seq ?_
 refine c_region ?_
 refine l_mv 3 S rfl ?_; clear S a; intro a S
 refine l_read S H (r_load rfl List.mem_cons_self rfl (fun w hc => ld1 ag34 hc)) rfl rfl rfl ?_; clear S a; intro a S
 refine l_lit [(.const (.int .u8 44))] S H rfl rfl Tryz.underlying34 sz5 zv5 rfl rfl (by simp [Value.cells]) rfl rfl rfl ?_; clear S a H; intro g2 w a H S
 refine l_ownB [_, _] (l := ([] : List Int)) (r := [44]) S H rfl rfl rfl hown0 (src_lit (vs := ([44]).map (Value.int .u8)) H List.mem_cons_self Tryz.underlying34 (by simp [Value.oneCell'])) Tryz.underlying34 in5 rfl (by simp only [List.length_append, List.length_cons, List.length_nil, wq.dec_len, ints_len]; have := fz.ftoa_len f; omega) (by decide) rfl rfl rfl ?_; clear S a H; intro An3 cn3 own3 w a hn3 H S
 replace H := H.tail
 replace H : HH B wb _ ((gb, .cells #[.slice A0 ([] : List Int).length c0] 34 (0, 0)) :: (own3 ++ (po' ++ ((g1, .cells #[.float .f64 f] 67 (0, 0)) :: (opt go bp br :: (bs ++ L0)))))) := H
 refine l_mv 1 S rfl ?_; clear S a; intro a S
 refine l_store S H rfl rfl rfl .here (by first | decide | simp [Value.cells]) (fun w u hc hz => st1 sz34 rfl hc hz) rfl rfl ?_; clear S a H; intro w a H S
 refine l_nil ?_
 refine e_then ?_
 refine wp_seq ?_
 refine wp_seq ?_
 refine c_region ?_
 refine l_pure S (p_fieldAddr rfl (fun w => fa67_0 w _ _)) rfl rfl rfl ?_; clear S a; intro a S
 refine l_read S H (r_load rfl (List.mem_cons_of_mem _ (List.mem_append_right _ (List.mem_append_right _ List.mem_cons_self))) rfl (fun w hc => ld1 ag22 hc)) rfl rfl rfl ?_; clear S a; intro a S
 have hcon := nm.isInf1_ wb _ B _ f H
 rw [h1] at hcon
 refine l_call S rfl rfl Tryz.func31 rfl rfl (hcon) rfl rfl rfl ?_
 rintro e w ⟨rfl, hH⟩
 refine ⟨_, rfl, ?_⟩; clear S a; intro a S
 clear H hcon; have H := hH; clear hH
 refine l_nil ?_
 refine e_then ?_
 refine c_cond (b := true) S rfl (fun _ => ?_) (fun h => by cases h)
 refine c_region ?_
 refine l_mv 3 S rfl ?_; clear S a; intro a S
 refine l_read S H (r_load rfl List.mem_cons_self rfl (fun w hc => ld1 ag34 hc)) rfl rfl rfl ?_; clear S a; intro a S
 refine l_ownB [_] (l := (([] : List Int) ++ [44])) (r := [105, 110, 102]) S H rfl rfl rfl hn3 (wq.src_str Tryz.underlying9 (⟨#[105, 110, 102]⟩ : ByteArray)) Tryz.underlying34 in5 rfl (by simp only [List.length_append, List.length_cons, List.length_nil, wq.dec_len, ints_len]; have := fz.ftoa_len f; omega) (by decide) rfl rfl rfl ?_; clear S a H; intro An6 cn6 own6 w a hn6 H S
 replace H : HH B wb _ ((gb, .cells #[.slice An3 (([] : List Int) ++ [44]).length cn3] 34 (0, 0)) :: (own6 ++ (po' ++ ((g1, .cells #[.float .f64 f] 67 (0, 0)) :: (opt go bp br :: (bs ++ L0)))))) := H
 refine l_mv 1 S rfl ?_; clear S a; intro a S
 refine l_store S H rfl rfl rfl .here (by first | decide | simp [Value.cells]) (fun w u hc hz => st1 sz34 rfl hc hz) rfl rfl ?_; clear S a H; intro w a H S
 refine l_nil ?_
 refine e_then ?_
 refine wp_seq ?_
 refine d_start (id := 8) [5, 7] 8 #[false, false, false, false, false, false, false, false] H rfl rfl rfl (fun w H => ?_)
 refine d_mv [0, 1, 2] #[true, true, true, false, false, false, false, false] S rfl (by kernel_rfl) (fun _ _ _ _ _ h => h) ?_; clear S a; intro a S
 refine d_read (i := 3) #[true, true, true, true, false, false, false, false] S H rfl (r_load rfl List.mem_cons_self rfl (fun w hc => ld1 ag34 hc)) (wanted_none rfl) rfl rfl (by kernel_rfl) (fun _ _ _ h => h) ?_; clear S a; intro a S
 have hcon := delim_ wb _ B _ H
 refine d_call (i := 4) #[true, true, true, true, true, false, false, false] S rfl rfl rfl Tryz.func107 rfl rfl hcon (wanted_none rfl) rfl rfl (by kernel_rfl) rfl ?_
 rintro e w ⟨gd7, rfl, hH⟩; refine ⟨_, rfl, hH.tail, ?_⟩; clear hcon H; have H := hH; clear hH; clear S a; intro a S
 refine d_ownB (i := 5) [_, _] (xs := ((([] : List Int) ++ [44]) ++ [105, 110, 102])) (r := [13, 10]) #[true, true, true, true, true, true, false, false] S H rfl rfl rfl rfl hn6 (src_lit (vs := ([13, 10]).map (Value.int .u8)) H List.mem_cons_self Tryz.underlying34 (by simp [Value.oneCell'])) Tryz.underlying34 in5 rfl (by simp only [List.length_append, List.length_cons, List.length_nil, wq.dec_len, ints_len]; have := fz.ftoa_len f; omega) (by decide) (wanted_none rfl) rfl rfl (by kernel_rfl) rfl ?_; clear S a H; intro An8 cn8 own8 w a hn8 H S
 replace H := H.tail
 replace H : HH B wb _ ((gb, .cells #[.slice An6 ((([] : List Int) ++ [44]) ++ [105, 110, 102]).length cn6] 34 (0, 0)) :: (own8 ++ (po' ++ ((g1, .cells #[.float .f64 f] 67 (0, 0)) :: (opt go bp br :: (bs ++ L0)))))) := H
 refine d_mv [6] #[true, true, true, true, true, true, true, false] S rfl (by kernel_rfl) (fun _ _ _ _ _ h => h) ?_; clear S a; intro a S
 refine d_store (i := 7) #[true, true, true, true, true, true, true, true] S H rfl rfl rfl rfl .here (by first | decide | simp [Value.cells]) (fun w u hc hz => st1 sz34 rfl hc hz) (wanted_none rfl) rfl (by kernel_rfl) rfl ?_; clear S a H; intro w a H S
 refine d_done (by kernel_rfl) ?_
 refine e_then ?_
 refine wp_seq ?_
 refine d_start (id := 9) [7] 13 #[false, false, false, false, false, false, false, false, false, false, false, false, false] H rfl rfl rfl (fun w H => ?_)
 refine d_mv [0, 1, 2] #[true, true, true, false, false, false, false, false, false, false, false, false, false] S rfl (by kernel_rfl) (fun _ _ _ _ _ h => h) ?_; clear S a; intro a S
 refine d_read (i := 3) #[true, true, true, true, false, false, false, false, false, false, false, false, false] S H rfl (r_load rfl List.mem_cons_self rfl (fun w hc => ld1 ag34 hc)) (wanted_none rfl) rfl rfl (by kernel_rfl) (fun _ _ _ h => h) ?_; clear S a; intro a S
 refine d_pure (i := 4) #[true, true, true, true, true, false, false, false, false, false, false, false, false] S rfl (p_func rfl rfl) (wanted_none rfl) rfl rfl (by kernel_rfl) (fun _ _ _ h => h) ?_; clear S a; intro a S
 refine d_pure (i := 5) #[true, true, true, true, true, true, false, false, false, false, false, false, false] S rfl (mw.p_nilCheckM rfl (fun w => nilW w _)) (wanted_none rfl) rfl rfl (by kernel_rfl) (fun _ _ _ h => h) ?_; clear S a; intro a S
 refine d_mv [6] #[true, true, true, true, true, true, true, false, false, false, false, false, false] S rfl (by kernel_rfl) (fun _ _ _ _ _ h => h) ?_; clear S a; intro a S
 obtain ⟨gr, cr, fr, rfl, rfl, hlc, hcr, hth, hrow⟩ := rp.own_open hn8 (by simp only [List.length_append, List.length_cons, List.length_nil]; omega)
 replace H : HH B wb _ ((gb, .cells #[.slice (some ⟨gr, 0, none⟩) (((([] : List Int) ++ [44]) ++ [105, 110, 102]) ++ [13, 10]).length cn8] 34 (0, 0)) :: ((gr, .cells cr 5 fr) :: (po' ++ ((g1, .cells #[.float .f64 f] 67 (0, 0)) :: (opt go bp br :: (bs ++ L0)))))) := H
 have H2 := HH.front (L1 := ((gb, .cells #[.slice (some ⟨gr, 0, none⟩) (((([] : List Int) ++ [44]) ++ [105, 110, 102]) ++ [13, 10]).length cn8] 34 (0, 0)) :: ((gr, .cells cr 5 fr) :: (po' ++ ((g1, .cells #[.float .f64 f] 67 (0, 0)) :: [opt go bp br]))))) (S := bs) (L2 := L0) (HH.app H (by simp))
 have hcon := wr.bb.write_ wb _ B (((gb, .cells #[.slice (some ⟨gr, 0, none⟩) (((([] : List Int) ++ [44]) ++ [105, 110, 102]) ++ [13, 10]).length cn8] 34 (0, 0)) :: ((gr, .cells cr 5 fr) :: (po' ++ ((g1, .cells #[.float .f64 f] 67 (0, 0)) :: [opt go bp br])))) ++ L0) b l bs hz gr 0 cn8 cr fr (((([] : List Int) ++ [44]) ++ [105, 110, 102]) ++ [13, 10]) (by simp) hrow (by simp only [List.length_append, List.length_cons, List.length_nil]; omega) H2 (by simp only [List.length_append, List.length_cons, List.length_nil, wq.dec_len, ints_len]; have := fz.ftoa_len f; omega)
 refine d_invoke_last (i := 7) #[true, true, true, true, true, true, true, true, false, false, false, false, false] S rfl rfl rfl rfl (meW _ _) Tryz.func157 rfl rfl hcon (wanted_none rfl) rfl rfl (by kernel_rfl) rfl ?_
 rintro e w ⟨rfl, bs2, hz2, hH⟩
 refine ⟨_, rfl, ?_⟩; clear S a; intro a S; clear H H2 hcon
 have H : HH B wb w ((gb, .cells #[.slice (some ⟨gr, 0, none⟩) (((([] : List Int) ++ [44]) ++ [105, 110, 102]) ++ [13, 10]).length cn8] 34 (0, 0)) :: ((gr, .cells cr 5 fr) :: (po' ++ ((g1, .cells #[.float .f64 f] 67 (0, 0)) :: (opt go bp br :: (bs2 ++ L0)))))) := HH.app (HH.front (L1 := bs2) (S := ((gb, .cells #[.slice (some ⟨gr, 0, none⟩) (((([] : List Int) ++ [44]) ++ [105, 110, 102]) ++ [13, 10]).length cn8] 34 (0, 0)) :: ((gr, .cells cr 5 fr) :: (po' ++ ((g1, .cells #[.float .f64 f] 67 (0, 0)) :: [opt go bp br]))))) (L2 := L0) hH) (by simp)
 clear hH
 refine d_mv [8, 9, 10, 11, 12] #[true, true, true, true, true, true, true, true, true, true, true, true, true] S rfl (by kernel_rfl) (fun _ _ _ _ _ h => h) ?_; clear S a; intro a S
 refine d_done (by kernel_rfl) ?_
 refine e_then ?_
 refine wp_seq ?_
 refine c_region ?_
 refine l_mv 2 S rfl ?_; clear S a; intro a S
 refine l_pure S (p_fieldAddr rfl (fun w => fa102_1 w _ _)) rfl rfl rfl ?_; clear S a; intro a S
 refine l_read S H (r_load rfl (List.mem_cons_of_mem _ (List.mem_cons_of_mem _ (List.mem_append_right _ (List.mem_cons_of_mem _ List.mem_cons_self)))) rfl (fun w hc => ld1 ag85 hc)) rfl rfl rfl ?_; clear S a; intro a S
 refine l_mv 1 S rfl ?_; clear S a; intro a S
 have hcon := wr.pl.putc_ wb _ B ((g1, .cells #[.float .f64 f] 67 (0, 0)) :: (opt go bp br :: (bs2 ++ L0))) bp gb cn8 (some ⟨gr, 0, none⟩) (((([] : List Int) ++ [44]) ++ [105, 110, 102]) ++ [13, 10]) po' [(gr, .cells cr 5 fr)] hp' hn8 H
 refine l_callv (us := [.pointer (some ⟨bp, 0, none⟩)]) (cs := []) S rfl rfl rfl Tryz.func24 rfl rfl hcon rfl rfl rfl ?_
 rintro e w ⟨rfl, po2, hp2, hH⟩
 refine ⟨_, rfl, ?_⟩; clear S a; intro a S; clear H hcon; have H := hH; clear hH
 refine l_nil ?_
 refine e_then ?_
 refine wp_seq ?_
 refine c_region ?_
 refine l_mv 2 S rfl ?_; clear S a; intro a S
 refine l_nil ?_
 refine e_then ?_
 refine wp_ret ?_
 replace H : HH B wb _ (po2 ++ ((g1, .cells #[.float .f64 f] 67 (0, 0)) :: (opt go bp br :: (bs2 ++ L0)))) := H
 replace H : HH B wb _ (opt go bp br :: (po2 ++ ((g1, .cells #[.float .f64 f] 67 (0, 0)) :: (bs2 ++ L0)))) := HH.app (HH.front (L1 := (po2 ++ [(g1, .cells #[.float .f64 f] 67 (0, 0))])) (S := [opt go bp br]) (L2 := (bs2 ++ L0)) (HH.app H (by simp))) (by simp)
 replace H : HH B wb _ (opt go bp br :: (po2 ++ (bs2 ++ L0))) := H.sub (.cons_cons _ (List.Sublist.append (.refl _) (.cons _ (List.Sublist.append (.refl _) (.refl _)))))
 exact r_ret1 S rfl rfl ⟨rfl, _, ⟨br, po2, bs2, hp2, by simpa using hz2, rfl⟩, HH.app (L := (opt go bp br :: (po2 ++ (bs2 ++ L0)))) (L' := (opt go bp br :: (po2 ++ bs2)) ++ L0) H (by simp)⟩
set_option maxHeartbeats 1000000 in
theorem dbl1_ (wb w0 : World) (B : Nat) (L0 : dc.Bk) (go bp b : Nat) (l : List Int) (ls : List (Nat × Obj)) (hE : Env go bp b l ls) (ht : Lib.TabBelow Tryz.prog B wb "internal/strconv.uint64pow10" .u64 Lib.pow10Tab) (hT : fz.PTab 3 B wb) (H : HH B wb w0 (ls ++ L0)) (hl : l.length ≤ 10000000) (f : Nat) (hf : f < 18446744073709551616) (h1 : mw.isInf1 f = false) (h2 : mw.isInfM f = true) : Calls Tryz.prog 115 #[.agg #[.float .f64 f], .iface 46 (.pointer (some ⟨b, 0, none⟩)), .pointer (some ⟨go, 0, none⟩)] w0 fun e w' => e = .returned .nilIface ∧ ∃ ls', Env go bp b (l ++ (44 :: ([45, 105, 110, 102] ++ [13, 10]))) ls' ∧ HH B wb w' (ls' ++ L0) := by
 obtain ⟨br, po, bs, hp, hz, rfl⟩ := hE
 replace H : HH B wb w0 (opt go bp br :: (po ++ (bs ++ L0))) := HH.app H (by simp)
 refine c_enter (args := [.agg #[.float .f64 f], .iface 46 (.pointer (some ⟨b, 0, none⟩)), .pointer (some ⟨go, 0, none⟩)]) (k := 70) Tryz.func115 rfl rfl rfl (fun a S => ?_)
 refine wp_seq ?_
 refine c_region ?_
 refine l_box (cs := #[.float .f64 f]) S H rfl rfl (fun w => bx) rfl rfl rfl ?_; clear S a H; intro g1 w a H S
 refine l_mv 1 S rfl ?_; clear S a; intro a S
 refine l_nil ?_
 refine e_then ?_
 refine wp_seq ?_
 refine c_region ?_
 refine l_mv 2 S rfl ?_; clear S a; intro a S
 refine l_pure S (p_fieldAddr rfl (fun w => fa102_0 w _ _)) rfl rfl rfl ?_; clear S a; intro a S
 refine l_read S H (r_load rfl (List.mem_cons_of_mem _ List.mem_cons_self) rfl (fun w hc => ld1 ag84 hc)) rfl rfl rfl ?_; clear S a; intro a S
 replace H : HH B wb _ ((g1, .cells #[.float .f64 f] 67 (0, 0)) :: (opt go bp br :: (po ++ (bs ++ L0)))) := H
 replace H : HH B wb _ (po ++ ((g1, .cells #[.float .f64 f] 67 (0, 0)) :: (opt go bp br :: (bs ++ L0)))) := HH.app (HH.front (L1 := ((g1, .cells #[.float .f64 f] 67 (0, 0)) :: [opt go bp br])) (S := po) (L2 := (bs ++ L0)) (HH.app H (by simp))) (by simp)
 have hcon := wr.pl.get_ wb _ B ((g1, .cells #[.float .f64 f] 67 (0, 0)) :: (opt go bp br :: (bs ++ L0))) bp po hp H
 refine l_callv (us := [.pointer (some ⟨bp, 0, none⟩)]) (cs := []) S rfl rfl rfl Tryz.func23 rfl rfl hcon rfl rfl rfl ?_
 rintro e w ⟨po', hp', gb, A0, c0, ow0, rfl, hown0, hH⟩
 refine ⟨_, rfl, ?_⟩; clear S a; intro a S; clear H hcon; have H := hH; clear hH
 refine l_mv 1 S rfl ?_; clear S a; intro a S
 refine l_nil ?_
 refine e_then ?_
 refine wp_seq ?_
 refine c_region ?_
 refine l_mv 3 S rfl ?_; clear S a; intro a S
 refine l_read S H (r_load rfl List.mem_cons_self rfl (fun w hc => ld1 ag34 hc)) rfl rfl rfl ?_; clear S a; intro a S
 refine l_lit [(.const (.int .u8 44))] S H rfl rfl Tryz.underlying34 sz5 zv5 rfl rfl (by simp [Value.cells]) rfl rfl rfl ?_; clear S a H; intro g2 w a H S
 refine l_ownB [_, _] (l := ([] : List Int)) (r := [44]) S H rfl rfl rfl hown0 (src_lit (vs := ([44]).map (Value.int .u8)) H List.mem_cons_self Tryz.underlying34 (by simp [Value.oneCell'])) Tryz.underlying34 in5 rfl (by simp only [List.length_append, List.length_cons, List.length_nil, wq.dec_len, ints_len]; have := fz.ftoa_len f; omega) (by decide) rfl rfl rfl ?_; clear S a H; intro An3 cn3 own3 w a hn3 H S
 replace H := H.tail
 replace H : HH B wb _ ((gb, .cells #[.slice A0 ([] : List Int).length c0] 34 (0, 0)) :: (own3 ++ (po' ++ ((g1, .cells #[.float .f64 f] 67 (0, 0)) :: (opt go bp br :: (bs ++ L0)))))) := H
 refine l_mv 1 S rfl ?_; clear S a; intro a S
 refine l_store S H rfl rfl rfl .here (by first | decide | simp [Value.cells]) (fun w u hc hz => st1 sz34 rfl hc hz) rfl rfl ?_; clear S a H; intro w a H S
 refine l_nil ?_
 refine e_then ?_
 refine wp_seq ?_
 refine wp_seq ?_
 refine c_region ?_
 refine l_pure S (p_fieldAddr rfl (fun w => fa67_0 w _ _)) rfl rfl rfl ?_; clear S a; intro a S
 refine l_read S H (r_load rfl (List.mem_cons_of_mem _ (List.mem_append_right _ (List.mem_append_right _ List.mem_cons_self))) rfl (fun w hc => ld1 ag22 hc)) rfl rfl rfl ?_; clear S a; intro a S
 have hcon := nm.isInf1_ wb _ B _ f H
 rw [h1] at hcon
 refine l_call S rfl rfl Tryz.func31 rfl rfl (hcon) rfl rfl rfl ?_
 rintro e w ⟨rfl, hH⟩
 refine ⟨_, rfl, ?_⟩; clear S a; intro a S
 clear H hcon; have H := hH; clear hH
 refine l_nil ?_
 refine e_then ?_
 refine c_cond (b := false) S rfl (fun h => by cases h) (fun _ => ?_)
 refine wp_seq ?_
 refine c_region ?_
 refine l_pure S (p_fieldAddr rfl (fun w => fa67_0 w _ _)) rfl rfl rfl ?_; clear S a; intro a S
 refine l_read S H (r_load rfl (List.mem_cons_of_mem _ (List.mem_append_right _ (List.mem_append_right _ List.mem_cons_self))) rfl (fun w hc => ld1 ag22 hc)) rfl rfl rfl ?_; clear S a; intro a S
 have hcon := nm.isInfM_ wb _ B _ f H
 rw [h2] at hcon
 refine l_call S rfl rfl Tryz.func31 rfl rfl (hcon) rfl rfl rfl ?_
 rintro e w ⟨rfl, hH⟩
 refine ⟨_, rfl, ?_⟩; clear S a; intro a S
 clear H hcon; have H := hH; clear hH
 refine l_nil ?_
 refine e_then ?_
 refine c_cond (b := true) S rfl (fun _ => ?_) (fun h => by cases h)
 refine c_region ?_
 refine l_mv 3 S rfl ?_; clear S a; intro a S
 refine l_read S H (r_load rfl List.mem_cons_self rfl (fun w hc => ld1 ag34 hc)) rfl rfl rfl ?_; clear S a; intro a S
 refine l_ownB [_] (l := (([] : List Int) ++ [44])) (r := [45, 105, 110, 102]) S H rfl rfl rfl hn3 (wq.src_str Tryz.underlying9 (⟨#[45, 105, 110, 102]⟩ : ByteArray)) Tryz.underlying34 in5 rfl (by simp only [List.length_append, List.length_cons, List.length_nil, wq.dec_len, ints_len]; have := fz.ftoa_len f; omega) (by decide) rfl rfl rfl ?_; clear S a H; intro An8 cn8 own8 w a hn8 H S
 replace H : HH B wb _ ((gb, .cells #[.slice An3 (([] : List Int) ++ [44]).length cn3] 34 (0, 0)) :: (own8 ++ (po' ++ ((g1, .cells #[.float .f64 f] 67 (0, 0)) :: (opt go bp br :: (bs ++ L0)))))) := H
 refine l_mv 1 S rfl ?_; clear S a; intro a S
 refine l_store S H rfl rfl rfl .here (by first | decide | simp [Value.cells]) (fun w u hc hz => st1 sz34 rfl hc hz) rfl rfl ?_; clear S a H; intro w a H S
 refine l_nil ?_
 refine e_then ?_
 refine wp_seq ?_
 refine d_start (id := 8) [5, 7] 8 #[false, false, false, false, false, false, false, false] H rfl rfl rfl (fun w H => ?_)
 refine d_mv [0, 1, 2] #[true, true, true, false, false, false, false, false] S rfl (by kernel_rfl) (fun _ _ _ _ _ h => h) ?_; clear S a; intro a S
 refine d_read (i := 3) #[true, true, true, true, false, false, false, false] S H rfl (r_load rfl List.mem_cons_self rfl (fun w hc => ld1 ag34 hc)) (wanted_none rfl) rfl rfl (by kernel_rfl) (fun _ _ _ h => h) ?_; clear S a; intro a S
 have hcon := delim_ wb _ B _ H
 refine d_call (i := 4) #[true, true, true, true, true, false, false, false] S rfl rfl rfl Tryz.func107 rfl rfl hcon (wanted_none rfl) rfl rfl (by kernel_rfl) rfl ?_
 rintro e w ⟨gd9, rfl, hH⟩; refine ⟨_, rfl, hH.tail, ?_⟩; clear hcon H; have H := hH; clear hH; clear S a; intro a S
 refine d_ownB (i := 5) [_, _] (xs := ((([] : List Int) ++ [44]) ++ [45, 105, 110, 102])) (r := [13, 10]) #[true, true, true, true, true, true, false, false] S H rfl rfl rfl rfl hn8 (src_lit (vs := ([13, 10]).map (Value.int .u8)) H List.mem_cons_self Tryz.underlying34 (by simp [Value.oneCell'])) Tryz.underlying34 in5 rfl (by simp only [List.length_append, List.length_cons, List.length_nil, wq.dec_len, ints_len]; have := fz.ftoa_len f; omega) (by decide) (wanted_none rfl) rfl rfl (by kernel_rfl) rfl ?_; clear S a H; intro An10 cn10 own10 w a hn10 H S
 replace H := H.tail
 replace H : HH B wb _ ((gb, .cells #[.slice An8 ((([] : List Int) ++ [44]) ++ [45, 105, 110, 102]).length cn8] 34 (0, 0)) :: (own10 ++ (po' ++ ((g1, .cells #[.float .f64 f] 67 (0, 0)) :: (opt go bp br :: (bs ++ L0)))))) := H
 refine d_mv [6] #[true, true, true, true, true, true, true, false] S rfl (by kernel_rfl) (fun _ _ _ _ _ h => h) ?_; clear S a; intro a S
 refine d_store (i := 7) #[true, true, true, true, true, true, true, true] S H rfl rfl rfl rfl .here (by first | decide | simp [Value.cells]) (fun w u hc hz => st1 sz34 rfl hc hz) (wanted_none rfl) rfl (by kernel_rfl) rfl ?_; clear S a H; intro w a H S
 refine d_done (by kernel_rfl) ?_
 refine e_then ?_
 refine wp_seq ?_
 refine d_start (id := 9) [7] 13 #[false, false, false, false, false, false, false, false, false, false, false, false, false] H rfl rfl rfl (fun w H => ?_)
 refine d_mv [0, 1, 2] #[true, true, true, false, false, false, false, false, false, false, false, false, false] S rfl (by kernel_rfl) (fun _ _ _ _ _ h => h) ?_; clear S a; intro a S
 refine d_read (i := 3) #[true, true, true, true, false, false, false, false, false, false, false, false, false] S H rfl (r_load rfl List.mem_cons_self rfl (fun w hc => ld1 ag34 hc)) (wanted_none rfl) rfl rfl (by kernel_rfl) (fun _ _ _ h => h) ?_; clear S a; intro a S
 refine d_pure (i := 4) #[true, true, true, true, true, false, false, false, false, false, false, false, false] S rfl (p_func rfl rfl) (wanted_none rfl) rfl rfl (by kernel_rfl) (fun _ _ _ h => h) ?_; clear S a; intro a S
 refine d_pure (i := 5) #[true, true, true, true, true, true, false, false, false, false, false, false, false] S rfl (mw.p_nilCheckM rfl (fun w => nilW w _)) (wanted_none rfl) rfl rfl (by kernel_rfl) (fun _ _ _ h => h) ?_; clear S a; intro a S
 refine d_mv [6] #[true, true, true, true, true, true, true, false, false, false, false, false, false] S rfl (by kernel_rfl) (fun _ _ _ _ _ h => h) ?_; clear S a; intro a S
 obtain ⟨gr, cr, fr, rfl, rfl, hlc, hcr, hth, hrow⟩ := rp.own_open hn10 (by simp only [List.length_append, List.length_cons, List.length_nil]; omega)
 replace H : HH B wb _ ((gb, .cells #[.slice (some ⟨gr, 0, none⟩) (((([] : List Int) ++ [44]) ++ [45, 105, 110, 102]) ++ [13, 10]).length cn10] 34 (0, 0)) :: ((gr, .cells cr 5 fr) :: (po' ++ ((g1, .cells #[.float .f64 f] 67 (0, 0)) :: (opt go bp br :: (bs ++ L0)))))) := H
 have H2 := HH.front (L1 := ((gb, .cells #[.slice (some ⟨gr, 0, none⟩) (((([] : List Int) ++ [44]) ++ [45, 105, 110, 102]) ++ [13, 10]).length cn10] 34 (0, 0)) :: ((gr, .cells cr 5 fr) :: (po' ++ ((g1, .cells #[.float .f64 f] 67 (0, 0)) :: [opt go bp br]))))) (S := bs) (L2 := L0) (HH.app H (by simp))
 have hcon := wr.bb.write_ wb _ B (((gb, .cells #[.slice (some ⟨gr, 0, none⟩) (((([] : List Int) ++ [44]) ++ [45, 105, 110, 102]) ++ [13, 10]).length cn10] 34 (0, 0)) :: ((gr, .cells cr 5 fr) :: (po' ++ ((g1, .cells #[.float .f64 f] 67 (0, 0)) :: [opt go bp br])))) ++ L0) b l bs hz gr 0 cn10 cr fr (((([] : List Int) ++ [44]) ++ [45, 105, 110, 102]) ++ [13, 10]) (by simp) hrow (by simp only [List.length_append, List.length_cons, List.length_nil]; omega) H2 (by simp only [List.length_append, List.length_cons, List.length_nil, wq.dec_len, ints_len]; have := fz.ftoa_len f; omega)
 refine d_invoke_last (i := 7) #[true, true, true, true, true, true, true, true, false, false, false, false, false] S rfl rfl rfl rfl (meW _ _) Tryz.func157 rfl rfl hcon (wanted_none rfl) rfl rfl (by kernel_rfl) rfl ?_
 rintro e w ⟨rfl, bs2, hz2, hH⟩
 refine ⟨_, rfl, ?_⟩; clear S a; intro a S; clear H H2 hcon
 have H : HH B wb w ((gb, .cells #[.slice (some ⟨gr, 0, none⟩) (((([] : List Int) ++ [44]) ++ [45, 105, 110, 102]) ++ [13, 10]).length cn10] 34 (0, 0)) :: ((gr, .cells cr 5 fr) :: (po' ++ ((g1, .cells #[.float .f64 f] 67 (0, 0)) :: (opt go bp br :: (bs2 ++ L0)))))) := HH.app (HH.front (L1 := bs2) (S := ((gb, .cells #[.slice (some ⟨gr, 0, none⟩) (((([] : List Int) ++ [44]) ++ [45, 105, 110, 102]) ++ [13, 10]).length cn10] 34 (0, 0)) :: ((gr, .cells cr 5 fr) :: (po' ++ ((g1, .cells #[.float .f64 f] 67 (0, 0)) :: [opt go bp br]))))) (L2 := L0) hH) (by simp)
 clear hH
 refine d_mv [8, 9, 10, 11, 12] #[true, true, true, true, true, true, true, true, true, true, true, true, true] S rfl (by kernel_rfl) (fun _ _ _ _ _ h => h) ?_; clear S a; intro a S
 refine d_done (by kernel_rfl) ?_
 refine e_then ?_
 refine wp_seq ?_
 refine c_region ?_
 refine l_mv 2 S rfl ?_; clear S a; intro a S
 refine l_pure S (p_fieldAddr rfl (fun w => fa102_1 w _ _)) rfl rfl rfl ?_; clear S a; intro a S
 refine l_read S H (r_load rfl (List.mem_cons_of_mem _ (List.mem_cons_of_mem _ (List.mem_append_right _ (List.mem_cons_of_mem _ List.mem_cons_self)))) rfl (fun w hc => ld1 ag85 hc)) rfl rfl rfl ?_; clear S a; intro a S
 refine l_mv 1 S rfl ?_; clear S a; intro a S
 have hcon := wr.pl.putc_ wb _ B ((g1, .cells #[.float .f64 f] 67 (0, 0)) :: (opt go bp br :: (bs2 ++ L0))) bp gb cn10 (some ⟨gr, 0, none⟩) (((([] : List Int) ++ [44]) ++ [45, 105, 110, 102]) ++ [13, 10]) po' [(gr, .cells cr 5 fr)] hp' hn10 H
 refine l_callv (us := [.pointer (some ⟨bp, 0, none⟩)]) (cs := []) S rfl rfl rfl Tryz.func24 rfl rfl hcon rfl rfl rfl ?_
 rintro e w ⟨rfl, po2, hp2, hH⟩
 refine ⟨_, rfl, ?_⟩; clear S a; intro a S; clear H hcon; have H := hH; clear hH
 refine l_nil ?_
 refine e_then ?_
 refine wp_seq ?_
 refine c_region ?_
 refine l_mv 2 S rfl ?_; clear S a; intro a S
 refine l_nil ?_
 refine e_then ?_
 refine wp_ret ?_
 replace H : HH B wb _ (po2 ++ ((g1, .cells #[.float .f64 f] 67 (0, 0)) :: (opt go bp br :: (bs2 ++ L0)))) := H
 replace H : HH B wb _ (opt go bp br :: (po2 ++ ((g1, .cells #[.float .f64 f] 67 (0, 0)) :: (bs2 ++ L0)))) := HH.app (HH.front (L1 := (po2 ++ [(g1, .cells #[.float .f64 f] 67 (0, 0))])) (S := [opt go bp br]) (L2 := (bs2 ++ L0)) (HH.app H (by simp))) (by simp)
 replace H : HH B wb _ (opt go bp br :: (po2 ++ (bs2 ++ L0))) := H.sub (.cons_cons _ (List.Sublist.append (.refl _) (.cons _ (List.Sublist.append (.refl _) (.refl _)))))
 exact r_ret1 S rfl rfl ⟨rfl, _, ⟨br, po2, bs2, hp2, by simpa using hz2, rfl⟩, HH.app (L := (opt go bp br :: (po2 ++ (bs2 ++ L0)))) (L' := (opt go bp br :: (po2 ++ bs2)) ++ L0) H (by simp)⟩
set_option maxHeartbeats 1000000 in
theorem dbl2_ (wb w0 : World) (B : Nat) (L0 : dc.Bk) (go bp b : Nat) (l : List Int) (ls : List (Nat × Obj)) (hE : Env go bp b l ls) (ht : Lib.TabBelow Tryz.prog B wb "internal/strconv.uint64pow10" .u64 Lib.pow10Tab) (hT : fz.PTab 3 B wb) (H : HH B wb w0 (ls ++ L0)) (hl : l.length ≤ 10000000) (f : Nat) (hf : f < 18446744073709551616) (h1 : mw.isInf1 f = false) (h2 : mw.isInfM f = false) : Calls Tryz.prog 115 #[.agg #[.float .f64 f], .iface 46 (.pointer (some ⟨b, 0, none⟩)), .pointer (some ⟨go, 0, none⟩)] w0 fun e w' => e = .returned .nilIface ∧ ∃ ls', Env go bp b (l ++ (44 :: (fz.ftoa f ++ [13, 10]))) ls' ∧ HH B wb w' (ls' ++ L0) := by
 obtain ⟨br, po, bs, hp, hz, rfl⟩ := hE
 replace H : HH B wb w0 (opt go bp br :: (po ++ (bs ++ L0))) := HH.app H (by simp)
 refine c_enter (args := [.agg #[.float .f64 f], .iface 46 (.pointer (some ⟨b, 0, none⟩)), .pointer (some ⟨go, 0, none⟩)]) (k := 70) Tryz.func115 rfl rfl rfl (fun a S => ?_)
 refine wp_seq ?_
 refine c_region ?_
 refine l_box (cs := #[.float .f64 f]) S H rfl rfl (fun w => bx) rfl rfl rfl ?_; clear S a H; intro g1 w a H S
 refine l_mv 1 S rfl ?_; clear S a; intro a S
 refine l_nil ?_
 refine e_then ?_
 refine wp_seq ?_
 refine c_region ?_
 refine l_mv 2 S rfl ?_; clear S a; intro a S
 refine l_pure S (p_fieldAddr rfl (fun w => fa102_0 w _ _)) rfl rfl rfl ?_; clear S a; intro a S
 refine l_read S H (r_load rfl (List.mem_cons_of_mem _ List.mem_cons_self) rfl (fun w hc => ld1 ag84 hc)) rfl rfl rfl ?_; clear S a; intro a S
 replace H : HH B wb _ ((g1, .cells #[.float .f64 f] 67 (0, 0)) :: (opt go bp br :: (po ++ (bs ++ L0)))) := H
 replace H : HH B wb _ (po ++ ((g1, .cells #[.float .f64 f] 67 (0, 0)) :: (opt go bp br :: (bs ++ L0)))) := HH.app (HH.front (L1 := ((g1, .cells #[.float .f64 f] 67 (0, 0)) :: [opt go bp br])) (S := po) (L2 := (bs ++ L0)) (HH.app H (by simp))) (by simp)
 have hcon := wr.pl.get_ wb _ B ((g1, .cells #[.float .f64 f] 67 (0, 0)) :: (opt go bp br :: (bs ++ L0))) bp po hp H
 refine l_callv (us := [.pointer (some ⟨bp, 0, none⟩)]) (cs := []) S rfl rfl rfl Tryz.func23 rfl rfl hcon rfl rfl rfl ?_
 rintro e w ⟨po', hp', gb, A0, c0, ow0, rfl, hown0, hH⟩
 refine ⟨_, rfl, ?_⟩; clear S a; intro a S; clear H hcon; have H := hH; clear hH
 refine l_mv 1 S rfl ?_; clear S a; intro a S
 refine l_nil ?_
 refine e_then ?_
 refine wp_seq ?_
 refine c_region ?_
 refine l_mv 3 S rfl ?_; clear S a; intro a S
 refine l_read S H (r_load rfl List.mem_cons_self rfl (fun w hc => ld1 ag34 hc)) rfl rfl rfl ?_; clear S a; intro a S
 refine l_lit [(.const (.int .u8 44))] S H rfl rfl Tryz.underlying34 sz5 zv5 rfl rfl (by simp [Value.cells]) rfl rfl rfl ?_; clear S a H; intro g2 w a H S
 refine l_ownB [_, _] (l := ([] : List Int)) (r := [44]) S H rfl rfl rfl hown0 (src_lit (vs := ([44]).map (Value.int .u8)) H List.mem_cons_self Tryz.underlying34 (by simp [Value.oneCell'])) Tryz.underlying34 in5 rfl (by simp only [List.length_append, List.length_cons, List.length_nil, wq.dec_len, ints_len]; have := fz.ftoa_len f; omega) (by decide) rfl rfl rfl ?_; clear S a H; intro An3 cn3 own3 w a hn3 H S
 replace H := H.tail
 replace H : HH B wb _ ((gb, .cells #[.slice A0 ([] : List Int).length c0] 34 (0, 0)) :: (own3 ++ (po' ++ ((g1, .cells #[.float .f64 f] 67 (0, 0)) :: (opt go bp br :: (bs ++ L0)))))) := H
 refine l_mv 1 S rfl ?_; clear S a; intro a S
 refine l_store S H rfl rfl rfl .here (by first | decide | simp [Value.cells]) (fun w u hc hz => st1 sz34 rfl hc hz) rfl rfl ?_; clear S a H; intro w a H S
 refine l_nil ?_
 refine e_then ?_
 refine wp_seq ?_
 refine wp_seq ?_
 refine c_region ?_
 refine l_pure S (p_fieldAddr rfl (fun w => fa67_0 w _ _)) rfl rfl rfl ?_; clear S a; intro a S
 refine l_read S H (r_load rfl (List.mem_cons_of_mem _ (List.mem_append_right _ (List.mem_append_right _ List.mem_cons_self))) rfl (fun w hc => ld1 ag22 hc)) rfl rfl rfl ?_; clear S a; intro a S
 have hcon := nm.isInf1_ wb _ B _ f H
 rw [h1] at hcon
 refine l_call S rfl rfl Tryz.func31 rfl rfl (hcon) rfl rfl rfl ?_
 rintro e w ⟨rfl, hH⟩
 refine ⟨_, rfl, ?_⟩; clear S a; intro a S
 clear H hcon; have H := hH; clear hH
 refine l_nil ?_
 refine e_then ?_
 refine c_cond (b := false) S rfl (fun h => by cases h) (fun _ => ?_)
 refine wp_seq ?_
 refine c_region ?_
 refine l_pure S (p_fieldAddr rfl (fun w => fa67_0 w _ _)) rfl rfl rfl ?_; clear S a; intro a S
 refine l_read S H (r_load rfl (List.mem_cons_of_mem _ (List.mem_append_right _ (List.mem_append_right _ List.mem_cons_self))) rfl (fun w hc => ld1 ag22 hc)) rfl rfl rfl ?_; clear S a; intro a S
 have hcon := nm.isInfM_ wb _ B _ f H
 rw [h2] at hcon
 refine l_call S rfl rfl Tryz.func31 rfl rfl (hcon) rfl rfl rfl ?_
 rintro e w ⟨rfl, hH⟩
 refine ⟨_, rfl, ?_⟩; clear S a; intro a S
 clear H hcon; have H := hH; clear hH
 refine l_nil ?_
 refine e_then ?_
 refine c_cond (b := false) S rfl (fun h => by cases h) (fun _ => ?_)
 refine d_start (id := 7) [6, 8] 9 #[false, false, false, false, false, false, false, false, false] H rfl rfl rfl (fun w H => ?_)
 refine d_mv [0, 1, 2] #[true, true, true, false, false, false, false, false, false] S rfl (by kernel_rfl) (fun _ _ _ _ _ h => h) ?_; clear S a; intro a S
 refine d_read (i := 3) #[true, true, true, true, false, false, false, false, false] S H rfl (r_load rfl List.mem_cons_self rfl (fun w hc => ld1 ag34 hc)) (wanted_none rfl) rfl rfl (by kernel_rfl) (fun _ _ _ h => h) ?_; clear S a; intro a S
 refine d_pure (i := 4) #[true, true, true, true, true, false, false, false, false] S rfl (p_fieldAddr rfl (fun w => fa67_0 w _ _)) (wanted_none rfl) rfl rfl (by kernel_rfl) (fun _ _ _ h => h) ?_; clear S a; intro a S
 refine d_read (i := 5) #[true, true, true, true, true, true, false, false, false] S H rfl (r_load rfl (List.mem_cons_of_mem _ (List.mem_append_right _ (List.mem_append_right _ List.mem_cons_self))) rfl (fun w hc => ld1 ag22 hc)) (wanted_none rfl) rfl rfl (by kernel_rfl) (fun _ _ _ h => h) ?_; clear S a; intro a S
 have hcon := fz.ft.appF_ wb _ B ((gb, .cells #[.slice An3 (([] : List Int) ++ [44]).length cn3] 34 (0, 0)) :: (po' ++ ((g1, .cells #[.float .f64 f] 67 (0, 0)) :: (opt go bp br :: (bs ++ L0))))) ht hT f hf An3 cn3 (([] : List Int) ++ [44]) own3 hn3 (by simp only [List.length_append, List.length_cons, List.length_nil, wq.dec_len, ints_len]; have := fz.ftoa_len f; omega) H.mid
 refine d_call_last (i := 6) #[true, true, true, true, true, true, true, false, false] S rfl rfl rfl Tryz.func116 rfl rfl hcon (wanted_none rfl) rfl rfl (by kernel_rfl) rfl ?_
 rintro e w ⟨An8, cn8, own8, rfl, hn8, hH⟩
 refine ⟨_, rfl, ?_⟩; clear S a; intro a S; clear H hcon; have H := hH.unmid; clear hH
 refine d_mv [7] #[true, true, true, true, true, true, true, true, false] S rfl (by kernel_rfl) (fun _ _ _ _ _ h => h) ?_; clear S a; intro a S
 refine d_store (i := 8) #[true, true, true, true, true, true, true, true, true] S H rfl rfl rfl rfl .here (by first | decide | simp [Value.cells]) (fun w u hc hz => st1 sz34 rfl hc hz) (wanted_none rfl) rfl (by kernel_rfl) rfl ?_; clear S a H; intro w a H S
 refine d_done (by kernel_rfl) ?_
 refine e_then ?_
 refine wp_seq ?_
 refine d_start (id := 8) [5, 7] 8 #[false, false, false, false, false, false, false, false] H rfl rfl rfl (fun w H => ?_)
 refine d_mv [0, 1, 2] #[true, true, true, false, false, false, false, false] S rfl (by kernel_rfl) (fun _ _ _ _ _ h => h) ?_; clear S a; intro a S
 refine d_read (i := 3) #[true, true, true, true, false, false, false, false] S H rfl (r_load rfl List.mem_cons_self rfl (fun w hc => ld1 ag34 hc)) (wanted_none rfl) rfl rfl (by kernel_rfl) (fun _ _ _ h => h) ?_; clear S a; intro a S
 have hcon := delim_ wb _ B _ H
 refine d_call (i := 4) #[true, true, true, true, true, false, false, false] S rfl rfl rfl Tryz.func107 rfl rfl hcon (wanted_none rfl) rfl rfl (by kernel_rfl) rfl ?_
 rintro e w ⟨gd9, rfl, hH⟩; refine ⟨_, rfl, hH.tail, ?_⟩; clear hcon H; have H := hH; clear hH; clear S a; intro a S
 refine d_ownB (i := 5) [_, _] (xs := ((([] : List Int) ++ [44]) ++ fz.ftoa f)) (r := [13, 10]) #[true, true, true, true, true, true, false, false] S H rfl rfl rfl rfl hn8 (src_lit (vs := ([13, 10]).map (Value.int .u8)) H List.mem_cons_self Tryz.underlying34 (by simp [Value.oneCell'])) Tryz.underlying34 in5 rfl (by simp only [List.length_append, List.length_cons, List.length_nil, wq.dec_len, ints_len]; have := fz.ftoa_len f; omega) (by decide) (wanted_none rfl) rfl rfl (by kernel_rfl) rfl ?_; clear S a H; intro An10 cn10 own10 w a hn10 H S
 replace H := H.tail
 replace H : HH B wb _ ((gb, .cells #[.slice An8 ((([] : List Int) ++ [44]) ++ fz.ftoa f).length cn8] 34 (0, 0)) :: (own10 ++ (po' ++ ((g1, .cells #[.float .f64 f] 67 (0, 0)) :: (opt go bp br :: (bs ++ L0)))))) := H
 refine d_mv [6] #[true, true, true, true, true, true, true, false] S rfl (by kernel_rfl) (fun _ _ _ _ _ h => h) ?_; clear S a; intro a S
 refine d_store (i := 7) #[true, true, true, true, true, true, true, true] S H rfl rfl rfl rfl .here (by first | decide | simp [Value.cells]) (fun w u hc hz => st1 sz34 rfl hc hz) (wanted_none rfl) rfl (by kernel_rfl) rfl ?_; clear S a H; intro w a H S
 refine d_done (by kernel_rfl) ?_
 refine e_then ?_
 refine wp_seq ?_
 refine d_start (id := 9) [7] 13 #[false, false, false, false, false, false, false, false, false, false, false, false, false] H rfl rfl rfl (fun w H => ?_)
 refine d_mv [0, 1, 2] #[true, true, true, false, false, false, false, false, false, false, false, false, false] S rfl (by kernel_rfl) (fun _ _ _ _ _ h => h) ?_; clear S a; intro a S
 refine d_read (i := 3) #[true, true, true, true, false, false, false, false, false, false, false, false, false] S H rfl (r_load rfl List.mem_cons_self rfl (fun w hc => ld1 ag34 hc)) (wanted_none rfl) rfl rfl (by kernel_rfl) (fun _ _ _ h => h) ?_; clear S a; intro a S
 refine d_pure (i := 4) #[true, true, true, true, true, false, false, false, false, false, false, false, false] S rfl (p_func rfl rfl) (wanted_none rfl) rfl rfl (by kernel_rfl) (fun _ _ _ h => h) ?_; clear S a; intro a S
 refine d_pure (i := 5) #[true, true, true, true, true, true, false, false, false, false, false, false, false] S rfl (mw.p_nilCheckM rfl (fun w => nilW w _)) (wanted_none rfl) rfl rfl (by kernel_rfl) (fun _ _ _ h => h) ?_; clear S a; intro a S
 refine d_mv [6] #[true, true, true, true, true, true, true, false, false, false, false, false, false] S rfl (by kernel_rfl) (fun _ _ _ _ _ h => h) ?_; clear S a; intro a S
 obtain ⟨gr, cr, fr, rfl, rfl, hlc, hcr, hth, hrow⟩ := rp.own_open hn10 (by simp only [List.length_append, List.length_cons, List.length_nil]; omega)
 replace H : HH B wb _ ((gb, .cells #[.slice (some ⟨gr, 0, none⟩) (((([] : List Int) ++ [44]) ++ fz.ftoa f) ++ [13, 10]).length cn10] 34 (0, 0)) :: ((gr, .cells cr 5 fr) :: (po' ++ ((g1, .cells #[.float .f64 f] 67 (0, 0)) :: (opt go bp br :: (bs ++ L0)))))) := H
 have H2 := HH.front (L1 := ((gb, .cells #[.slice (some ⟨gr, 0, none⟩) (((([] : List Int) ++ [44]) ++ fz.ftoa f) ++ [13, 10]).length cn10] 34 (0, 0)) :: ((gr, .cells cr 5 fr) :: (po' ++ ((g1, .cells #[.float .f64 f] 67 (0, 0)) :: [opt go bp br]))))) (S := bs) (L2 := L0) (HH.app H (by simp))
 have hcon := wr.bb.write_ wb _ B (((gb, .cells #[.slice (some ⟨gr, 0, none⟩) (((([] : List Int) ++ [44]) ++ fz.ftoa f) ++ [13, 10]).length cn10] 34 (0, 0)) :: ((gr, .cells cr 5 fr) :: (po' ++ ((g1, .cells #[.float .f64 f] 67 (0, 0)) :: [opt go bp br])))) ++ L0) b l bs hz gr 0 cn10 cr fr (((([] : List Int) ++ [44]) ++ fz.ftoa f) ++ [13, 10]) (by simp) hrow (by simp only [List.length_append, List.length_cons, List.length_nil]; omega) H2 (by simp only [List.length_append, List.length_cons, List.length_nil, wq.dec_len, ints_len]; have := fz.ftoa_len f; omega)
 refine d_invoke_last (i := 7) #[true, true, true, true, true, true, true, true, false, false, false, false, false] S rfl rfl rfl rfl (meW _ _) Tryz.func157 rfl rfl hcon (wanted_none rfl) rfl rfl (by kernel_rfl) rfl ?_
 rintro e w ⟨rfl, bs2, hz2, hH⟩
 refine ⟨_, rfl, ?_⟩; clear S a; intro a S; clear H H2 hcon
 have H : HH B wb w ((gb, .cells #[.slice (some ⟨gr, 0, none⟩) (((([] : List Int) ++ [44]) ++ fz.ftoa f) ++ [13, 10]).length cn10] 34 (0, 0)) :: ((gr, .cells cr 5 fr) :: (po' ++ ((g1, .cells #[.float .f64 f] 67 (0, 0)) :: (opt go bp br :: (bs2 ++ L0)))))) := HH.app (HH.front (L1 := bs2) (S := ((gb, .cells #[.slice (some ⟨gr, 0, none⟩) (((([] : List Int) ++ [44]) ++ fz.ftoa f) ++ [13, 10]).length cn10] 34 (0, 0)) :: ((gr, .cells cr 5 fr) :: (po' ++ ((g1, .cells #[.float .f64 f] 67 (0, 0)) :: [opt go bp br]))))) (L2 := L0) hH) (by simp)
 clear hH
 refine d_mv [8, 9, 10, 11, 12] #[true, true, true, true, true, true, true, true, true, true, true, true, true] S rfl (by kernel_rfl) (fun _ _ _ _ _ h => h) ?_; clear S a; intro a S
 refine d_done (by kernel_rfl) ?_
 refine e_then ?_
 refine wp_seq ?_
 refine c_region ?_
 refine l_mv 2 S rfl ?_; clear S a; intro a S
 refine l_pure S (p_fieldAddr rfl (fun w => fa102_1 w _ _)) rfl rfl rfl ?_; clear S a; intro a S
 refine l_read S H (r_load rfl (List.mem_cons_of_mem _ (List.mem_cons_of_mem _ (List.mem_append_right _ (List.mem_cons_of_mem _ List.mem_cons_self)))) rfl (fun w hc => ld1 ag85 hc)) rfl rfl rfl ?_; clear S a; intro a S
 refine l_mv 1 S rfl ?_; clear S a; intro a S
 have hcon := wr.pl.putc_ wb _ B ((g1, .cells #[.float .f64 f] 67 (0, 0)) :: (opt go bp br :: (bs2 ++ L0))) bp gb cn10 (some ⟨gr, 0, none⟩) (((([] : List Int) ++ [44]) ++ fz.ftoa f) ++ [13, 10]) po' [(gr, .cells cr 5 fr)] hp' hn10 H
 refine l_callv (us := [.pointer (some ⟨bp, 0, none⟩)]) (cs := []) S rfl rfl rfl Tryz.func24 rfl rfl hcon rfl rfl rfl ?_
 rintro e w ⟨rfl, po2, hp2, hH⟩
 refine ⟨_, rfl, ?_⟩; clear S a; intro a S; clear H hcon; have H := hH; clear hH
 refine l_nil ?_
 refine e_then ?_
 refine wp_seq ?_
 refine c_region ?_
 refine l_mv 2 S rfl ?_; clear S a; intro a S
 refine l_nil ?_
 refine e_then ?_
 refine wp_ret ?_
 replace H : HH B wb _ (po2 ++ ((g1, .cells #[.float .f64 f] 67 (0, 0)) :: (opt go bp br :: (bs2 ++ L0)))) := H
 replace H : HH B wb _ (opt go bp br :: (po2 ++ ((g1, .cells #[.float .f64 f] 67 (0, 0)) :: (bs2 ++ L0)))) := HH.app (HH.front (L1 := (po2 ++ [(g1, .cells #[.float .f64 f] 67 (0, 0))])) (S := [opt go bp br]) (L2 := (bs2 ++ L0)) (HH.app H (by simp))) (by simp)
 replace H : HH B wb _ (opt go bp br :: (po2 ++ (bs2 ++ L0))) := H.sub (.cons_cons _ (List.Sublist.append (.refl _) (.cons _ (List.Sublist.append (.refl _) (.refl _)))))
 exact r_ret1 S rfl rfl ⟨rfl, _, ⟨br, po2, bs2, hp2, by simpa using hz2, rfl⟩, HH.app (L := (opt go bp br :: (po2 ++ (bs2 ++ L0)))) (L' := (opt go bp br :: (po2 ++ bs2)) ++ L0) H (by simp)⟩
theorem dbl_ (wb w0 : World) (B : Nat) (L0 : dc.Bk) (go bp b : Nat) (l : List Int) (ls : List (Nat × Obj)) (hE : Env go bp b l ls) (ht : Lib.TabBelow Tryz.prog B wb "internal/strconv.uint64pow10" .u64 Lib.pow10Tab) (hT : fz.PTab 3 B wb) (H : HH B wb w0 (ls ++ L0)) (hl : l.length ≤ 10000000) (f : Nat) (hf : f < 18446744073709551616) : Calls Tryz.prog 115 #[.agg #[.float .f64 f], .iface 46 (.pointer (some ⟨b, 0, none⟩)), .pointer (some ⟨go, 0, none⟩)] w0 fun e w' => e = .returned .nilIface ∧ ∃ ls', Env go bp b (l ++ (44 :: (mw.dtext f ++ [13, 10]))) ls' ∧ HH B wb w' (ls' ++ L0) := by
 unfold mw.dtext
 cases h1 : mw.isInf1 f with
 | true => exact dbl0_ wb w0 B L0 go bp b l ls hE ht hT H hl f hf h1
 | false =>
  cases h2 : mw.isInfM f with
  | true => exact dbl1_ wb w0 B L0 go bp b l ls hE ht hT H hl f hf h1 h2
  | false => exact dbl2_ wb w0 B L0 go bp b l ls hE ht hT H hl f hf h1 h2
end ms
end Go.Proofs.YtfbfmcjjohiikaaGreatDoor.mw
end
