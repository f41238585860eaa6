/- FnRawRead: the law, walked. -/
import Derived.Test.YtnmelglnkefjfaaDoorCa
import Derived.Test.YtnmelglnkefjfaaDoorSc1
import Derived.Test.YtnmelglnkefjfaaDoorRe1
namespace Go.Proofs.YtnmelglnkefjfaaDoor.rr
open Go.RowKit Go.Proofs.HHW Go.Proofs.YtnmelglnkefjfaaDoorW.PrintWords
set_option linter.unusedVariables false
set_option linter.unusedSimpArgs false
namespace rf
theorem ag3 : aggB Tryd.prog 3 = some false := by kernel_rfl
theorem ag4 : aggB Tryd.prog 4 = some false := by kernel_rfl
theorem ag44 : aggB Tryd.prog 44 = some false := by kernel_rfl
theorem ag46 : aggB Tryd.prog 46 = some true := by kernel_rfl
theorem ag62 : aggB Tryd.prog 62 = some false := by kernel_rfl
theorem ag9 : aggB Tryd.prog 9 = some false := by kernel_rfl
theorem fa31_1 (w : World) (g o : Nat) : (Instr.fieldAt 31 (.pointer (some ⟨g, o, none⟩)) 1).run Tryd.prog w = .ok (.pointer (some ⟨g, o + 1, none⟩)) w := by kernel_rfl
theorem fa31_2 (w : World) (g o : Nat) : (Instr.fieldAt 31 (.pointer (some ⟨g, o, none⟩)) 2).run Tryd.prog w = .ok (.pointer (some ⟨g, o + 2, none⟩)) w := by kernel_rfl
theorem fa46_1 (w : World) (g o : Nat) : (Instr.fieldAt 46 (.pointer (some ⟨g, o, none⟩)) 1).run Tryd.prog w = .ok (.pointer (some ⟨g, o + 1, none⟩)) w := by kernel_rfl
theorem sz3 : szB Tryd.prog 3 = some 1 := by kernel_rfl
theorem sz46 : szB Tryd.prog 46 = some 2 := by kernel_rfl
theorem sz5 : szB Tryd.prog 5 = some 1 := by kernel_rfl
theorem sz62 : szB Tryd.prog 62 = some 1 := by kernel_rfl
theorem sz9 : szB Tryd.prog 9 = some 1 := by kernel_rfl
theorem zv3 : zvB Tryd.prog 3 = some (.int .i64 0) := by kernel_rfl
theorem zv46 : zvB Tryd.prog 46 = some (.agg #[.pointer none, .nilIface]) := by kernel_rfl
theorem zv62 : zvB Tryd.prog 62 = some (.slice none 0 0) := by kernel_rfl
theorem zv9 : zvB Tryd.prog 9 = some (.string ⟨#[]⟩) := by kernel_rfl
theorem bld31_0 (x0_0 : ByteArray) : Tryd.prog.built 31 [(0, (.string x0_0))] = some #[.string x0_0, .int .i64 0, .bool false, .int .i64 0] := by kernel_rfl
theorem mi49 : Tryd.prog.underlying 49 = some (.interface (Tryd.prog.methodsAt 49)) := by kernel_rfl

section
open Go.Proofs.YtnmelglnkefjfaaDoor.sk.pc
theorem pieces0_ (wb w0 : World) (L0 : dc.Bk) (s : ByteArray) (Az : Option Addr) (zs : List Int) (cz : Nat) (H : HH wb.heap.size wb w0 L0) (hC : (Kd.int .i64).C wb Az zs.length zs) (hzc : zs.length ≤ cz) (hz : zs.length ≤ 50) (hs : s.size ≤ 1000000) : Calls Tryd.prog 17 #[.string s, .slice Az zs.length cz] w0 fun e w' => ∃ g gb gr cs A' zs' c', e = .returned (.agg #[.pointer (some ⟨gr, 0, none⟩), .iface 102 (.pointer (some ⟨g, 0, none⟩))]) ∧ cs.size = 4096 ∧ (zs' = [] ∨ dc.pos zs' zs'.length = true) ∧ zs'.length ≤ zs.length ∧ (Kd.int .i64).C wb A' zs'.length zs' ∧ HH wb.heap.size wb w' ((g, .cells #[.slice (some ⟨gb, 0, none⟩) 4096 4096, .iface 42 (.pointer (some ⟨gr, 0, none⟩)), .int .i64 0, .int .i64 0, .nilIface, .int .i64 (-1), .int .i64 (-1)] 153 (0, 0)) :: (gb, .cells cs 5 (0, 0)) :: (gr, .cells #[.string s, .slice A' zs'.length c', .int .i64 ((0 : Nat) : Int), .bool false] 86 (0, 0)) :: L0) := by
  refine c_enter (args := [.string s, .slice Az zs.length cz]) (k := 16) Tryd.func17 rfl rfl rfl (fun a S => ?_)
  refine wp_seq ?_
  refine c_region ?_
  refine l_alloc (cs := #[.pointer none, .nilIface]) S H rfl (fun w => al zv46) rfl rfl rfl ?_; clear S a H; intro g1 w a H S
  refine l_nil ?_
  refine e_then ?_
  refine wp_seq ?_
  refine c_region ?_
  refine l_pure S (p_move rfl) rfl rfl rfl ?_; clear S a; intro a S
  refine l_pure S (p_move rfl) rfl rfl rfl ?_; clear S a; intro a S
  have hcon := rd.newReader_ wb _ _ s Az zs cz H hC hzc (by omega) hs
  refine l_call S rfl rfl Tryd.func36 rfl rfl (hcon) rfl rfl rfl ?_
  rintro e w ⟨gr, A', zs', c', rfl, hpos, hz', hC', hzc', hH⟩
  refine ⟨_, rfl, ?_⟩; clear S a; intro a S
  clear H hcon; have H := hH; clear hH
  refine l_pure S (p_assign rfl) rfl rfl rfl ?_; clear S a; intro a S
  refine l_nil ?_
  refine e_then ?_
  refine wp_seq ?_
  refine c_region ?_
  refine l_pure S (p_move rfl) rfl rfl rfl ?_; clear S a; intro a S
  have hcon := bu.op.opts_ wb _ _ _ H
  refine l_call S rfl rfl Tryd.func30 rfl rfl (hcon) rfl rfl rfl ?_
  rintro e w ⟨go, p, r, rfl, hH⟩
  refine ⟨_, rfl, ?_⟩; clear S a; intro a S
  clear H hcon; have H := hH; clear hH
  refine l_pure S (p_nilCheck rfl) rfl rfl rfl ?_; clear S a; intro a S
  refine l_pure S (p_fieldAddr rfl (fun w => fa74_3 w _ _)) rfl rfl rfl ?_; clear S a; intro a S
  refine l_read S H (r_load rfl List.mem_cons_self rfl (fun w hc => ld1 ag71 hc)) rfl rfl rfl ?_; clear S a; intro a S
  refine l_pure S (p_move rfl) rfl rfl rfl ?_; clear S a; intro a S
  refine l_pure S (p_iface rfl (fun w => mkR w _)) rfl rfl rfl ?_; clear S a; intro a S
  have hcon := bu.mk.opts1_ wb _ _ _ gr H
  refine l_callv (us := []) (cs := []) S rfl rfl rfl Tryd.func45 rfl rfl hcon rfl rfl rfl ?_
  rintro e w ⟨g, gb, cs, rfl, hcs, hH⟩
  refine ⟨_, rfl, ?_⟩; clear S a; intro a S
  clear H hcon; have H := hH; clear hH
  refine l_pure S (p_bld (ps := [(0, .tmp 9), (1, .tmp 16)]) rfl (bldP gr g)) rfl rfl rfl ?_; clear S a; intro a S
  refine l_storeAll (vs := [.pointer (some ⟨gr, 0, none⟩), .iface 102 (.pointer (some ⟨g, 0, none⟩))]) S H rfl rfl rfl sz46 (.there (.there (.there (.there .here)))) rfl (fun v hv => by simp only [List.mem_cons, List.not_mem_nil, or_false] at hv; rcases hv with rfl | rfl <;> rfl) rfl rfl ?_; clear S a H; intro w a H S
  refine l_nil ?_
  refine e_then ?_
  refine wp_ret ?_
  exact r_retc1 S rfl rfl (lva (cs := [.pointer (some ⟨gr, 0, none⟩), .iface 102 (.pointer (some ⟨g, 0, none⟩))]) ag46 sz46 rfl H (List.mem_cons_of_mem _ (List.mem_cons_of_mem _ (List.mem_cons_of_mem _ (List.mem_cons_of_mem _ List.mem_cons_self))))) ⟨g, gb, gr, cs, A', zs', c', rfl, hcs, hpos, by omega, hC', H.sub (by simp)⟩
end
theorem unm_ (wb w0 : World) (L0 : dc.Bk) (g gb gr grm : Nat) (cs : Array Value) (r : Nat) (vis : List Int) (s : ByteArray) (Az : Option Addr) (zs : List Int) (cz ap : Nat) (lb lr : Int) (Y : List Int) (k : Nat) (ov : Value) (ae : Addr) (hE : wb.cell? ⟨0, 0, none⟩ = some (.iface 143 (.pointer (some ae)))) (hlt : 0 < wb.heap.size) (qe : Addr) (hU : wb.cell? ⟨1, 0, none⟩ = some (.iface 143 (.pointer (some qe)))) (hltU : 1 < wb.heap.size) (H : HH wb.heap.size wb w0 ((g, .cells #[.slice (some ⟨gb, 0, none⟩) 4096 4096, .iface 42 (.pointer (some ⟨gr, 0, none⟩)), .int .i64 (r : Int), .int .i64 ((r + vis.length : Nat) : Int), .nilIface, .int .i64 lb, .int .i64 lr] 153 (0, 0)) :: (gb, .cells cs 5 (0, 0)) :: (gr, .cells #[.string s, .slice Az zs.length cz, .int .i64 (ap : Int), .bool false] 86 (0, 0)) :: (grm, .cells #[.slice none 0 0] 62 (0, 0)) :: L0)) (hcs : cs.size = 4096) (hrow : bf.Row cs r vis) (hw : r + vis.length ≤ 4096) (hC : (Kd.int .i64).C wb Az zs.length zs) (hzs : zs = []) (ha : ap + 200 * Y.length ≤ 900000000000) (hfit : vis.length + s.size ≤ 2000) (hst : vis = [] ∨ s.size = 0) (hbr : ∀ x ∈ Y, 0 ≤ x ∧ x ≤ 255) (hY : vis ++ ints s = Y) (hl : Y.length ≤ 2000) (hne : rp.raw k Y ≠ none) : Calls Tryd.prog 29 #[.pointer (some ⟨grm, 0, none⟩), .iface 102 (.pointer (some ⟨g, 0, none⟩)), ov] w0 (ru.UP wb L0 g gb gr grm Az zs cz ap [] Y (rp.raw k Y)) := by
  refine c_enter (args := [.pointer (some ⟨grm, 0, none⟩), .iface 102 (.pointer (some ⟨g, 0, none⟩)), ov]) (k := 13) Tryd.func29 rfl rfl rfl (fun a S => ?_)
  refine wp_seq ?_
  refine c_region ?_
  refine l_pure S (p_assign rfl) rfl rfl rfl ?_; clear S a; intro a S
  refine l_nil ?_
  refine e_then ?_
  refine wp_seq ?_
  refine c_region ?_
  refine l_pure S (p_move rfl) rfl rfl rfl ?_; clear S a; intro a S
  refine l_pure S (p_move rfl) rfl rfl rfl ?_; clear S a; intro a S
  refine l_pure S (p_nilCheck rfl) rfl rfl rfl ?_; clear S a; intro a S
  refine l_read S H (r_load rfl (List.mem_cons_of_mem _ (List.mem_cons_of_mem _ (List.mem_cons_of_mem _ List.mem_cons_self))) rfl (fun w hc => ld1 ag62 hc)) rfl rfl rfl ?_; clear S a; intro a S
  refine l_pure S (p_slice rfl (fun _ _ => o_none) (o_some rfl) (fun _ _ => o_none) (fun w => sl_hi (m := 0) Tryd.underlying62 sz5 rfl (Nat.le_refl _))) rfl rfl rfl ?_; clear S a; intro a S
  refine l_pure S (p_nilCheck rfl) rfl rfl rfl ?_; clear S a; intro a S
  refine l_store S H rfl rfl rfl (.there (.there (.there .here))) (by first | decide | simp [Value.cells]) (fun w u hc hz => st1 sz62 rfl hc hz) rfl rfl ?_; clear S a H; intro w a H S
  refine l_nil ?_
  refine e_then ?_
  refine wp_seq ?_
  refine c_region ?_
  refine l_pure S (p_move rfl) rfl rfl rfl ?_; clear S a; intro a S
  refine l_pure S (p_move rfl) rfl rfl rfl ?_; clear S a; intro a S
  have hcon := ru.um_ k wb w L0 g gb gr grm cs r vis s Az zs cz ap lb lr none 0 [] Y [] ae hE hlt qe hU hltU H hcs hrow hw hC hzs ha hfit hst hbr hY (ownB_nil 5) (by simpa using hl) hne
  refine l_call S rfl rfl Tryd.func39 rfl rfl hcon rfl rfl rfl ?_
  rintro e w hup
  obtain ⟨v, rfl⟩ : ∃ v, e = .returned v := by rcases hup with ⟨_, _, _, _, _, _, _, _, _, h, _⟩ | ⟨_, _, _, h, _⟩ <;> exact ⟨_, h⟩
  · skip
    refine ⟨_, rfl, ?_⟩; clear S a; intro a S; clear H hcon
    refine l_pure S (p_assign rfl) rfl rfl rfl ?_; clear S a; intro a S
    refine l_nil ?_
    refine e_then ?_
    refine wp_ret ?_
    exact r_ret1 S rfl rfl hup
theorem idle28 (p0 : Addr) (p1 : Addr) (p2 : Addr) (w : World) :
    CallsD Tryd.prog 28 #[.pointer (some p0), .pointer (some p1), .pointer (some p2)] .returning w fun e u' w' => e = .returned (.tuple #[]) ∧ u' = .returning ∧ w' = w := by
  refine callsD_of_wpS Tryd.func28 rfl fun c₀ cs hu => ?_
  apply wpS_seq
  apply wpS_region
  simp [wpOpsS, go_sem, recoverD, hu, Tryd.ntmps28, Exit.thenS]
  refine wpS_cond (t := false) (by simp [Act.eval, Array.replicate]) ?_
  simp only [Bool.false_eq_true, if_false]
  refine wpS_of_wp (wp_skip ?_)
  cases c₀
  simp_all [bodyPostS, results, Tryd.results28]
set_option maxHeartbeats 1000000 in
theorem rawread_ (wb : World) (s : ByteArray) (k : Nat) (ae : Addr) (hE : wb.cell? ⟨0, 0, none⟩ = some (.iface 143 (.pointer (some ae)))) (hlt : 0 < wb.heap.size) (qe : Addr) (hU : wb.cell? ⟨1, 0, none⟩ = some (.iface 143 (.pointer (some qe)))) (hltU : 1 < wb.heap.size) (hs : s.size ≤ 2000) (hne : rp.raw k (ints s) ≠ none) : Calls Tryd.prog 10 #[.string s] wb fun e w' => Below wb.heap.size wb w' ∧ ((rp.raw k (ints s) = some none ∧ ∃ lf : Int, e = .returned (.tuple #[.string ⟨#[]⟩, .int .i64 lf, .int .i64 2])) ∨ (∃ (cc : Nat), rp.raw k (ints s) = some (some cc) ∧ ∃ lf : Nat, lf + cc = s.size ∧ e = .returned (.tuple #[.string (strOfNums ((ints s).take cc)), .int .i64 (lf : Int), .int .i64 0]))) := by
  have H := HH.start wb
  refine c_enter_d (args := [.string s]) (k := 24) Tryd.func10 rfl rfl rfl (fun a S => ?_)
  refine wp_seq ?_
  refine c_region ?_
  refine l_alloc (cs := #[.string ⟨#[]⟩]) S H rfl (fun w => al zv9) rfl rfl rfl ?_; clear S a H; intro gc2 w a H S
  refine l_alloc (cs := #[.int .i64 0]) S H rfl (fun w => al zv3) rfl rfl rfl ?_; clear S a H; intro gc3 w a H S
  refine l_alloc (cs := #[.int .i64 0]) S H rfl (fun w => al zv3) rfl rfl rfl ?_; clear S a H; intro gc4 w a H S
  refine l_nil ?_
  refine e_then ?_
  refine wp_seq ?_
  refine c_region ?_
  refine l_pure S (p_func rfl rfl) rfl rfl rfl ?_; clear S a; intro a S
  refine l_defer (xs := []) (us := []) (vs := []) S rfl rfl rfl rfl rfl ?_; clear S a; intro a S
  refine l_nil ?_
  refine e_then ?_
  refine wp_seq ?_
  refine c_region ?_
  refine l_pure S (p_move rfl) rfl rfl rfl ?_; clear S a; intro a S
  have hcon := pieces0_ wb _ _ s none [] 0 H ⟨rfl, by simp, fun h => absurd h (by simp)⟩ (Nat.le_refl 0) (by simp) (by omega)
  refine l_call S rfl rfl Tryd.func17 rfl rfl (hcon) rfl rfl rfl ?_
  rintro e w ⟨g, gb, gr, cs, A', zs', c', rfl, hcs, hpos, hz', hC', hH⟩
  refine ⟨_, rfl, ?_⟩; clear S a; intro a S
  clear H hcon; have H := hH; clear hH
  obtain rfl : zs' = [] := List.length_eq_zero_iff.1 (by simpa using hz')
  refine l_alloc (cs := #[.pointer none, .nilIface]) S H rfl (fun w => al zv46) rfl rfl rfl ?_; clear S a H; intro gp w a H S
  refine l_storeAll (vs := [.pointer (some ⟨gr, 0, none⟩), .iface 102 (.pointer (some ⟨g, 0, none⟩))]) S H rfl rfl rfl sz46 .here rfl (fun v hv => by simp only [List.mem_cons, List.not_mem_nil, or_false] at hv; rcases hv with rfl | rfl <;> rfl) rfl rfl ?_; clear S a H; intro w a H S
  refine l_nil ?_
  refine e_then ?_
  refine wp_seq ?_
  refine c_region ?_
  refine l_alloc (cs := #[.slice none 0 0]) S H rfl (fun w => al zv62) rfl rfl rfl ?_; clear S a H; intro grm w a H S
  refine l_nil ?_
  refine e_then ?_
  refine wp_seq ?_
  refine d_start (id := 4) [3] 5 #[false, false, false, false, false] H rfl rfl rfl (fun w H => ?_)
  refine d_pure (i := 0) #[true, false, false, false, false] S rfl (p_fieldAddr rfl (fun w => fa46_1 w _ _)) (wanted_none rfl) rfl rfl (by kernel_rfl) (hq_d (fun t => by simp [results, Tryd.results10, Array.getElem?_setIfInBounds])) ?_; clear S a; intro a S
  refine d_read (i := 1) #[true, true, false, false, false] S H rfl (r_load rfl (List.mem_cons_of_mem _ List.mem_cons_self) rfl (fun w hc => ld1 ag44 hc)) (wanted_none rfl) rfl rfl (by kernel_rfl) (hq_d (fun t => by simp [results, Tryd.results10, Array.getElem?_setIfInBounds])) ?_; clear S a; intro a S
  have hcon := bu.op.opts_ _ _ _ _ H
  refine d_call (i := 2) #[true, true, true, false, false] S rfl rfl rfl Tryd.func30 rfl rfl hcon (wanted_none rfl) rfl rfl (by kernel_rfl) rfl ?_
  rintro e w ⟨go, p, r, rfl, hH⟩; refine ⟨_, rfl, hH.tail, ?_⟩; clear hcon H; have H := hH.tail; clear hH; clear S a; intro a S
  have H2 : HH wb.heap.size wb w ((g, _) :: (gb, _) :: (gr, _) :: (grm, _) :: (gp, _) :: _) := H.perm (List.perm_append_comm_assoc [_, _] [_, _, _] _)
  have hcon := unm_ wb w _ g gb gr grm cs 0 [] s A' [] c' 0 (-1) (-1) (ints s) k (.pointer (some ⟨go, 0, none⟩)) ae hE hlt qe hU hltU H2 hcs (fun i v h => by simp at h) (by simp) hC' rfl (by rw [ints_len]; omega) (by simpa using hs) (.inl rfl) (fun x hx => rp.ints_range hx) rfl (by rw [ints_len]; exact hs) hne
  refine d_call_last (i := 3) #[true, true, true, true, false] S rfl rfl rfl Tryd.func29 rfl rfl hcon (wanted_none rfl) rfl rfl (by kernel_rfl) rfl ?_
  rintro e w (⟨hr, q, r', v', s', ap', cs', lb', lr', rfl, hq1, hq2, hH⟩ | ⟨cc, hr, hcc, rfl, A2, k2, ow2, cs2, r2, s2, ap2, lb2, lr2, hown2, hcs2, hrow2, hw2, hs2, hap2, hH⟩)
  · skip
    refine ⟨_, rfl, ?_⟩; clear S a; intro a S; clear H H2 hcon
    have H := hH; clear hH
    refine d_pure (i := 4) #[true, true, true, true, true] S rfl (p_assign rfl) (wanted_none rfl) rfl rfl (by kernel_rfl) (hq_d (fun t => by simp [results, Tryd.results10, Array.getElem?_setIfInBounds])) ?_; clear S a; intro a S
    refine d_done (by kernel_rfl) ?_
    refine e_then ?_
    refine wp_seq ?_
    refine wp_seq ?_
    refine c_region ?_
    refine l_pure S (p_move rfl) rfl rfl rfl ?_; clear S a; intro a S
    refine l_pure S (p_ifnilN mi49 rfl rfl) rfl rfl rfl ?_; clear S a; intro a S
    refine l_nil ?_
    refine e_then ?_
    refine c_cond (b := true) S rfl (fun _ => ?_) (fun h => by cases h)
    refine wp_seq ?_
    refine c_region ?_
    refine l_read S H (r_loadn (m := 2) (vs := [.pointer (some ⟨gr, 0, none⟩), .iface 102 (.pointer (some ⟨g, 0, none⟩))]) rfl (List.mem_cons_of_mem _ (List.mem_cons_of_mem _ (List.mem_cons_of_mem _ List.mem_cons_self))) ag46 sz46 rfl rfl) rfl rfl rfl ?_; clear S a; intro a S
    have hcon := sk.pc.left_ wb _ _ _ g gb gr cs' r' v' s' A' [] c' ap' lb' lr' H hq1 hq2
    refine l_call S rfl rfl Tryd.func20 rfl rfl (hcon) rfl rfl rfl ?_
    rintro e w ⟨rfl, hH⟩
    refine ⟨_, rfl, ?_⟩; clear S a; intro a S
    clear H hcon; have H := hH; clear hH
    refine l_pure S (p_move rfl) rfl rfl rfl ?_; clear S a; intro a S
    refine l_call S rfl rfl Tryd.func21 rfl rfl (sk.pc.state_es wb _ _ _ q H) rfl rfl rfl ?_
    rintro e w ⟨rfl, hH⟩
    refine ⟨_, rfl, ?_⟩; clear S a; intro a S
    clear H; have H := hH; clear hH
    refine l_store S H rfl rfl rfl (.there (.there (.there (.there (.there (.there .here)))))) (by first | decide | simp [Value.cells]) (fun w u hc hz => st1 sz9 rfl hc hz) rfl rfl ?_; clear S a H; intro w a H S
    refine l_store S H rfl rfl rfl (.there (.there (.there (.there (.there .here))))) (by first | decide | simp [Value.cells]) (fun w u hc hz => st1 sz3 rfl hc hz) rfl rfl ?_; clear S a H; intro w a H S
    refine l_store S H rfl rfl rfl (.there (.there (.there (.there .here)))) (by first | decide | simp [Value.cells]) (fun w u hc hz => st1 sz3 rfl hc hz) rfl rfl ?_; clear S a H; intro w a H S
    refine l_nil ?_
    refine e_then ?_
    refine wp_ret ?_
    refine e_then_ret ?_
    exact r_door (v := .tuple #[.string ⟨#[]⟩, .int .i64 ((v'.length + s'.size : Nat) : Int), .int .i64 2]) S (idle28 _ _ _) (invokes Tryd.func28 rfl rfl) (res_c3 rfl rfl rfl rfl (lv ag9 H (List.mem_cons_of_mem _ (List.mem_cons_of_mem _ (List.mem_cons_of_mem _ (List.mem_cons_of_mem _ (List.mem_cons_of_mem _ (List.mem_cons_of_mem _ List.mem_cons_self)))))) rfl) (lv ag3 H (List.mem_cons_of_mem _ (List.mem_cons_of_mem _ (List.mem_cons_of_mem _ (List.mem_cons_of_mem _ (List.mem_cons_of_mem _ List.mem_cons_self))))) rfl) (lv ag3 H (List.mem_cons_of_mem _ (List.mem_cons_of_mem _ (List.mem_cons_of_mem _ (List.mem_cons_of_mem _ List.mem_cons_self)))) rfl)) ⟨H.below, .inl ⟨hr, _, rfl⟩⟩
  · skip
    refine ⟨_, rfl, ?_⟩; clear S a; intro a S; clear H H2 hcon
    rw [List.nil_append] at hown2 hH
    have H := hH; clear hH
    refine d_pure (i := 4) #[true, true, true, true, true] S rfl (p_assign rfl) (wanted_none rfl) rfl rfl (by kernel_rfl) (hq_d (fun t => by simp [results, Tryd.results10, Array.getElem?_setIfInBounds])) ?_; clear S a; intro a S
    refine d_done (by kernel_rfl) ?_
    refine e_then ?_
    refine wp_seq ?_
    refine wp_seq ?_
    refine c_region ?_
    refine l_pure S (p_move rfl) rfl rfl rfl ?_; clear S a; intro a S
    refine l_pure S (p_nilnilN mi49 rfl) rfl rfl rfl ?_; clear S a; intro a S
    refine l_nil ?_
    refine e_then ?_
    refine c_cond (b := false) S rfl (fun h => by cases h) (fun _ => ?_)
    refine wp_skip ?_
    refine e_then ?_
    refine wp_seq ?_
    refine d_start (id := 7) [4, 5, 6] 7 #[false, false, false, false, false, false, false] H rfl rfl rfl (fun w H => ?_)
    refine d_read (i := 0) #[true, false, false, false, false, false, false] S H rfl (r_load rfl (List.mem_cons_of_mem _ (List.mem_cons_of_mem _ (List.mem_cons_of_mem _ List.mem_cons_self))) rfl (fun w hc => ld1 ag62 hc)) (wanted_none rfl) rfl rfl (by kernel_rfl) (hq_d (fun t => by simp [results, Tryd.results10, Array.getElem?_setIfInBounds])) ?_; clear S a; intro a S
    refine d_read (i := 1) #[true, true, false, false, false, false, false] S H rfl (r_strH rfl Tryd.underlying62 Tryd.underlying5 Tryd.underlying9 (fun w H => Own.bytes hown2 H.tail.tail.tail.tail (by rw [List.length_take, ints_len]; omega))) (wanted_none rfl) rfl rfl (by kernel_rfl) (hq_d (fun t => by simp [results, Tryd.results10, Array.getElem?_setIfInBounds])) ?_; clear S a; intro a S
    refine d_read (i := 2) #[true, true, true, false, false, false, false] S H rfl (r_loadn (m := 2) (vs := [.pointer (some ⟨gr, 0, none⟩), .iface 102 (.pointer (some ⟨g, 0, none⟩))]) rfl (List.mem_cons_of_mem _ (List.mem_cons_of_mem _ (List.mem_cons_of_mem _ (List.mem_cons_of_mem _ (List.mem_append_right _ List.mem_cons_self))))) ag46 sz46 rfl rfl) (wanted_none rfl) rfl rfl (by kernel_rfl) (hq_d (fun t => by simp [results, Tryd.results10, Array.getElem?_setIfInBounds])) ?_; clear S a; intro a S
    have hcon := sk.pc.left_ wb _ _ _ g gb gr cs2 r2 ((ints s).drop cc) s2 A' [] c' ap2 lb2 lr2 H hw2 (by omega)
    refine d_call (i := 3) #[true, true, true, true, false, false, false] S rfl rfl rfl Tryd.func20 rfl rfl hcon (wanted_none rfl) rfl rfl (by kernel_rfl) rfl ?_
    rintro e w ⟨rfl, hH⟩; refine ⟨_, rfl, hH, ?_⟩; clear hcon H; have H := hH; clear hH; clear S a; intro a S
    refine d_store (i := 4) #[true, true, true, true, true, false, false] S H rfl rfl rfl rfl (.there (.there (.there (.there (Upd.skip ow2 (.there (.there (.there .here)))))))) (by first | decide | simp [Value.cells]) (fun w u hc hz => st1 sz9 rfl hc hz) (wanted_none rfl) rfl (by kernel_rfl) rfl ?_; clear S a H; intro w a H S
    refine d_store (i := 5) #[true, true, true, true, true, true, false] S H rfl rfl rfl rfl (.there (.there (.there (.there (Upd.skip ow2 (.there (.there .here))))))) (by first | decide | simp [Value.cells]) (fun w u hc hz => st1 sz3 rfl hc hz) (wanted_none rfl) rfl (by kernel_rfl) rfl ?_; clear S a H; intro w a H S
    refine d_store (i := 6) #[true, true, true, true, true, true, true] S H rfl rfl rfl rfl (.there (.there (.there (.there (Upd.skip ow2 (.there .here)))))) (by first | decide | simp [Value.cells]) (fun w u hc hz => st1 sz3 rfl hc hz) (wanted_none rfl) rfl (by kernel_rfl) rfl ?_; clear S a H; intro w a H S
    refine d_done (by kernel_rfl) ?_
    refine e_then ?_
    refine wp_ret ?_
    exact r_door (v := .tuple #[.string (strOfNums ((ints s).take cc)), .int .i64 ((((ints s).drop cc).length + s2.size : Nat) : Int), .int .i64 0]) S (idle28 _ _ _) (invokes Tryd.func28 rfl rfl) (res_c3 rfl rfl rfl rfl (lv ag9 H (List.mem_cons_of_mem _ (List.mem_cons_of_mem _ (List.mem_cons_of_mem _ (List.mem_cons_of_mem _ (List.mem_append_right _ (List.mem_cons_of_mem _ (List.mem_cons_of_mem _ (List.mem_cons_of_mem _ List.mem_cons_self)))))))) rfl) (lv ag3 H (List.mem_cons_of_mem _ (List.mem_cons_of_mem _ (List.mem_cons_of_mem _ (List.mem_cons_of_mem _ (List.mem_append_right _ (List.mem_cons_of_mem _ (List.mem_cons_of_mem _ List.mem_cons_self))))))) rfl) (lv ag3 H (List.mem_cons_of_mem _ (List.mem_cons_of_mem _ (List.mem_cons_of_mem _ (List.mem_cons_of_mem _ (List.mem_append_right _ (List.mem_cons_of_mem _ List.mem_cons_self)))))) rfl)) ⟨H.below, .inr ⟨cc, hr, _, by rw [List.length_drop, ints_len]; rw [ints_len] at hcc; omega, rfl⟩⟩
theorem ntaker_ (wb w0 : World) (B : Nat) (L0 : dc.Bk) (s : ByteArray) (H : HH B wb w0 L0) : Calls Tryd.prog 8 #[.string s] w0 fun e w' => ∃ gt, e = .returned (.pointer (some ⟨gt, 0, none⟩)) ∧ HH B wb w' ((gt, .cells #[.string s, .int .i64 0, .bool false, .int .i64 0] 31 (0, 0)) :: L0) := by
  refine c_enter (args := [.string s]) (k := 5) Tryd.func8 rfl rfl rfl (fun a S => ?_)
  refine wp_seq ?_
  refine c_region ?_
  refine l_pure S (p_assign rfl) rfl rfl rfl ?_; clear S a; intro a S
  refine l_nil ?_
  refine e_then ?_
  refine wp_seq ?_
  refine c_region ?_
  refine l_pure S (p_move rfl) rfl rfl rfl ?_; clear S a; intro a S
  refine l_pure S (p_bld (ps := [(0, .tmp 3)]) rfl (bld31_0 _)) rfl rfl rfl ?_; clear S a; intro a S
  refine l_box (cs := #[.string s, .int .i64 0, .bool false, .int .i64 0]) S H rfl rfl (fun w => bx) rfl rfl rfl ?_; clear S a H; intro g1 w a H S
  refine l_pure S (p_assign rfl) rfl rfl rfl ?_; clear S a; intro a S
  refine l_nil ?_
  refine e_then ?_
  refine wp_ret ?_
  exact r_ret1 S rfl rfl ⟨_, rfl, H⟩
theorem raw_one : rp.raw 500 (ints (⟨#[58, 49, 13, 10]⟩ : ByteArray)) = some (some 4) := by
  rw [show (500 : Nat) = 499 + 1 from rfl, show ints (⟨#[58, 49, 13, 10]⟩ : ByteArray) = [58, 49, 13, 10] from rfl, rp.raw_B (j := 3) (by decide) (by decide) (by decide)]
  exact rp.B_line (.inr (by decide))
theorem one_eq : ((strOfNums ((ints (⟨#[58, 49, 13, 10]⟩ : ByteArray)).take 4)).toList == (⟨#[58, 49, 13, 10]⟩ : ByteArray).toList) = true := by
  rw [rp.str_take, show (⟨#[58, 49, 13, 10]⟩ : ByteArray).extract 0 4 = ⟨#[58, 49, 13, 10]⟩ from bf.ext0 ⟨#[58, 49, 13, 10]⟩]; simp
theorem took_eq {s : ByteArray} {c : Nat} {n : Nat} (h : n = c) : ((strOfNums ((ints s).take c)).toList == (s.extract 0 n).toList) = true := by
  subst h; rw [rp.str_take]; simp
set_option maxHeartbeats 1000000 in
theorem law_calls (wb : World) (s : ByteArray) (ae : Addr) (hE : wb.cell? ⟨0, 0, none⟩ = some (.iface 143 (.pointer (some ae)))) (hlt : 0 < wb.heap.size) (qe : Addr) (hU : wb.cell? ⟨1, 0, none⟩ = some (.iface 143 (.pointer (some qe)))) (hltU : 1 < wb.heap.size) : Calls Tryd.prog 4 #[.string s] wb fun e w' => e = .returned (.bool true) ∧ Below wb.heap.size wb w' := by
  have H := HH.start wb
  refine c_enter (args := [.string s]) (k := 61) Tryd.func4 rfl rfl rfl (fun a S => ?_)
  refine wp_seq ?_
  refine c_region ?_
  refine l_pure S (p_assign rfl) rfl rfl rfl ?_; clear S a; intro a S
  refine l_nil ?_
  refine e_then ?_
  refine wp_seq ?_
  refine wp_seq ?_
  refine c_region ?_
  refine l_pure S (p_move rfl) rfl rfl rfl ?_; clear S a; intro a S
  refine l_pure S (p_lens Tryd.underlying9 rfl) rfl rfl rfl ?_; clear S a; intro a S
  refine l_pure S (p_gtr rfl rfl) rfl rfl rfl ?_; clear S a; intro a S
  refine l_nil ?_
  refine e_then ?_
  refine c_cond S rfl (fun bc3 => ?_) (fun bc3 => ?_)
  · skip
    have c3 := bc3
    have c3 := of_decide_eq_true c3
    refine wp_seq ?_
    refine c_region ?_
    refine l_pure S (p_assign rfl) rfl rfl rfl ?_; clear S a; intro a S
    refine l_nil ?_
    refine e_then ?_
    refine wp_ret ?_
    refine e_then_ret ?_
    first | exact r_ret1 S rfl rfl ⟨rfl, H.below⟩ | exact r_ret1 S rfl rfl ⟨by rw [show ((lf : Int) == ((s.size - (0 + c1) : Nat) : Int)) = true from beq_iff_eq.2 (by omega)], H.below⟩
  · skip
    have c3 := bc3
    have c3 := of_decide_eq_false c3
    refine wp_skip ?_
    refine e_then ?_
    refine wp_seq ?_
    refine wp_seq ?_
    refine c_region ?_
    refine l_pure S (p_move rfl) rfl rfl rfl ?_; clear S a; intro a S
    refine l_call S rfl rfl Tryd.func6 rfl rfl (sk.la.asked_ wb _ _ _ s none [] 0 H) rfl rfl rfl ?_
    rintro e w ⟨ok, rfl, hok, hH⟩
    refine ⟨_, rfl, ?_⟩; clear S a; intro a S
    clear H; have H := hH; clear hH
    refine l_pure S (p_not rfl) rfl rfl rfl ?_; clear S a; intro a S
    refine l_nil ?_
    refine e_then ?_
    refine c_cond S rfl (fun bc7 => ?_) (fun bc7 => ?_)
    · skip
      have c7 := bc7
      replace c7 := not_eq_true_ c7
      
      refine wp_seq ?_
      refine c_region ?_
      refine l_pure S (p_assign rfl) rfl rfl rfl ?_; clear S a; intro a S
      refine l_nil ?_
      refine e_then ?_
      refine wp_ret ?_
      refine e_then_ret ?_
      first | exact r_ret1 S rfl rfl ⟨rfl, H.below⟩ | exact r_ret1 S rfl rfl ⟨by rw [show ((lf : Int) == ((s.size - (0 + c1) : Nat) : Int)) = true from beq_iff_eq.2 (by omega)], H.below⟩
    · skip
      have c7 := bc7
      replace c7 := not_eq_false_ c7
      
      refine wp_skip ?_
      refine e_then ?_
      refine wp_seq ?_
      refine c_region ?_
      refine l_pure S (p_move rfl) rfl rfl rfl ?_; clear S a; intro a S
      refine l_call S rfl rfl Tryd.func8 rfl rfl (ntaker_ wb _ _ _ s H) rfl rfl rfl ?_
      rintro e w ⟨gt, rfl, hH⟩
      refine ⟨_, rfl, ?_⟩; clear S a; intro a S
      clear H; have H := hH; clear hH
      refine l_pure S (p_assign rfl) rfl rfl rfl ?_; clear S a; intro a S
      refine l_nil ?_
      refine e_then ?_
      refine wp_seq ?_
      refine c_region ?_
      refine l_pure S (p_move rfl) rfl rfl rfl ?_; clear S a; intro a S
      obtain ⟨h2000, _⟩ := hok (by assumption)
      have hcon := sr.raw_ 500 wb _ _ [] gt s 0 0 H (Nat.zero_le _) (by omega) rfl
      rw [List.drop_zero] at hcon
      refine l_call S rfl rfl Tryd.func9 rfl rfl hcon rfl rfl rfl ?_
      rintro e w (⟨hr, rfl, p1, hH⟩ | ⟨hr, rfl, p1, hH⟩ | ⟨c1, hr, rfl, hc1, hH⟩)
      · skip
        refine ⟨_, rfl, ?_⟩; clear S a; intro a S; clear H hcon; have H := hH; clear hH
        refine l_pure S (p_assign rfl) rfl rfl rfl ?_; clear S a; intro a S
        refine l_nil ?_
        refine e_then ?_
        refine wp_seq ?_
        refine wp_seq ?_
        refine c_region ?_
        refine l_pure S (p_move rfl) rfl rfl rfl ?_; clear S a; intro a S
        refine l_pure S (p_nilCheck rfl) rfl rfl rfl ?_; clear S a; intro a S
        refine l_pure S (p_fieldAddr rfl (fun w => fa31_2 w _ _)) rfl rfl rfl ?_; clear S a; intro a S
        refine l_read S H (r_load rfl List.mem_cons_self rfl (fun w hc => ld1 ag4 hc)) rfl rfl rfl ?_; clear S a; intro a S
        refine l_nil ?_
        refine e_then ?_
        refine c_cond (b := true) S rfl (fun _ => ?_) (fun h => by cases h)
        refine wp_seq ?_
        refine c_region ?_
        refine l_pure S (p_assign rfl) rfl rfl rfl ?_; clear S a; intro a S
        refine l_nil ?_
        refine e_then ?_
        refine wp_ret ?_
        refine e_then_ret ?_
        first | exact r_ret1 S rfl rfl ⟨rfl, H.below⟩ | exact r_ret1 S rfl rfl ⟨by rw [show ((lf : Int) == ((s.size - (0 + c1) : Nat) : Int)) = true from beq_iff_eq.2 (by omega)], H.below⟩
      · skip
        refine ⟨_, rfl, ?_⟩; clear S a; intro a S; clear H hcon; have H := hH; clear hH
        refine l_pure S (p_assign rfl) rfl rfl rfl ?_; clear S a; intro a S
        refine l_nil ?_
        refine e_then ?_
        refine wp_seq ?_
        refine wp_seq ?_
        refine c_region ?_
        refine l_pure S (p_move rfl) rfl rfl rfl ?_; clear S a; intro a S
        refine l_pure S (p_nilCheck rfl) rfl rfl rfl ?_; clear S a; intro a S
        refine l_pure S (p_fieldAddr rfl (fun w => fa31_2 w _ _)) rfl rfl rfl ?_; clear S a; intro a S
        refine l_read S H (r_load rfl List.mem_cons_self rfl (fun w hc => ld1 ag4 hc)) rfl rfl rfl ?_; clear S a; intro a S
        refine l_nil ?_
        refine e_then ?_
        refine c_cond (b := false) S rfl (fun h => by cases h) (fun _ => ?_)
        refine wp_skip ?_
        refine e_then ?_
        refine wp_seq ?_
        refine c_region ?_
        refine l_pure S (p_move rfl) rfl rfl rfl ?_; clear S a; intro a S
        have hcon := rawread_ w s 500 ae ((H.old hlt).trans hE) (Nat.lt_of_lt_of_le hlt H.below.size) qe ((H.old hltU).trans hU) (Nat.lt_of_lt_of_le hltU H.below.size) h2000 (fun h => by rw [hr] at h; cases h)
        refine l_call S rfl rfl Tryd.func10 rfl rfl hcon rfl rfl rfl ?_
        rintro e w ⟨hb, hcase⟩
        obtain ⟨lf, rfl⟩ : ∃ lf : Int, e = .returned (.tuple #[.string ⟨#[]⟩, .int .i64 lf, .int .i64 2]) := by rcases hcase with ⟨_, h⟩ | ⟨cc, h2, _⟩; exact h; rw [hr] at h2; cases h2
        · skip
          refine ⟨_, rfl, ?_⟩; clear S a; intro a S; clear hcon; replace H := H.later hb; clear hb
          refine l_pure S (p_move rfl) rfl rfl rfl ?_; clear S a; intro a S
          refine l_pure S (p_extract rfl rfl) rfl rfl rfl ?_; clear S a; intro a S
          refine l_pure S (p_extract rfl rfl) rfl rfl rfl ?_; clear S a; intro a S
          refine l_pure S (p_extract rfl rfl) rfl rfl rfl ?_; clear S a; intro a S
          refine l_pure S (p_assign rfl) rfl rfl rfl ?_; clear S a; intro a S
          refine l_pure S (p_assign rfl) rfl rfl rfl ?_; clear S a; intro a S
          refine l_pure S (p_assign rfl) rfl rfl rfl ?_; clear S a; intro a S
          refine l_nil ?_
          refine e_then ?_
          refine wp_seq ?_
          refine c_region ?_
          have hcon := rawread_ w ⟨#[58, 49, 13, 10]⟩ 500 ae ((H.old hlt).trans hE) (Nat.lt_of_lt_of_le hlt H.below.size) qe ((H.old hltU).trans hU) (Nat.lt_of_lt_of_le hltU H.below.size) (by decide) (fun h => by rw [raw_one] at h; cases h)
          refine l_call S rfl rfl Tryd.func10 rfl rfl hcon rfl rfl rfl ?_
          rintro e w ⟨hb, hcase⟩
          obtain ⟨lf2, hlf2, rfl⟩ : ∃ lf : Nat, lf + 4 = ByteArray.size (⟨#[58, 49, 13, 10]⟩ : ByteArray) ∧ e = .returned (.tuple #[.string (strOfNums ((ints (⟨#[58, 49, 13, 10]⟩ : ByteArray)).take 4)), .int .i64 (lf : Int), .int .i64 0]) := by rcases hcase with ⟨h2, _⟩ | ⟨cc, h2, lf, h3, h4⟩; rw [raw_one] at h2; cases h2; rw [raw_one] at h2; cases h2; exact ⟨lf, h3, h4⟩
          · skip
            refine ⟨_, rfl, ?_⟩; clear S a; intro a S; clear hcon; replace H := H.later hb; clear hb
            refine l_pure S (p_move rfl) rfl rfl rfl ?_; clear S a; intro a S
            refine l_pure S (p_extract rfl rfl) rfl rfl rfl ?_; clear S a; intro a S
            refine l_pure S (p_extract rfl rfl) rfl rfl rfl ?_; clear S a; intro a S
            refine l_pure S (p_extract rfl rfl) rfl rfl rfl ?_; clear S a; intro a S
            refine l_pure S (p_assign rfl) rfl rfl rfl ?_; clear S a; intro a S
            refine l_pure S (p_assign rfl) rfl rfl rfl ?_; clear S a; intro a S
            refine l_pure S (p_assign rfl) rfl rfl rfl ?_; clear S a; intro a S
            refine l_nil ?_
            refine e_then ?_
            refine wp_seq ?_
            refine wp_seq ?_
            refine c_region ?_
            refine l_pure S (p_move rfl) rfl rfl rfl ?_; clear S a; intro a S
            refine l_pure S (p_not rfl) rfl rfl rfl ?_; clear S a; intro a S
            refine l_nil ?_
            refine e_then ?_
            refine c_cond (b := true) S rfl (fun _ => ?_) (fun h => by cases h)
            refine wp_seq ?_
            refine c_region ?_
            refine l_pure S (p_move rfl) rfl rfl rfl ?_; clear S a; intro a S
            refine l_pure S (p_seql rfl rfl) rfl rfl rfl ?_; clear S a; intro a S
            refine l_pure S (p_move rfl) rfl rfl rfl ?_; clear S a; intro a S
            refine l_on S rfl rfl rfl rfl one_eq ?_
            refine l_pure S (p_move rfl) rfl rfl rfl ?_; clear S a; intro a S
            refine l_on S rfl rfl rfl rfl one_eq ?_
            refine l_pure S (p_eql rfl rfl) rfl rfl rfl ?_; clear S a; intro a S
            refine l_pure S (p_pick_t rfl one_eq rfl) rfl rfl rfl ?_; clear S a; intro a S
            refine l_pure S (p_assign rfl) rfl rfl rfl ?_; clear S a; intro a S
            refine l_nil ?_
            refine e_then ?_
            refine wp_ret ?_
            refine e_then_ret ?_
            first | exact r_ret1 S rfl rfl ⟨rfl, H.below⟩ | exact r_ret1 S rfl rfl ⟨by rw [show ((lf : Int) == ((s.size - (0 + c1) : Nat) : Int)) = true from beq_iff_eq.2 (by omega)], H.below⟩
      · skip
        refine ⟨_, rfl, ?_⟩; clear S a; intro a S; clear H hcon; have H := hH; clear hH
        refine l_pure S (p_assign rfl) rfl rfl rfl ?_; clear S a; intro a S
        refine l_nil ?_
        refine e_then ?_
        refine wp_seq ?_
        refine wp_seq ?_
        refine c_region ?_
        refine l_pure S (p_move rfl) rfl rfl rfl ?_; clear S a; intro a S
        refine l_pure S (p_nilCheck rfl) rfl rfl rfl ?_; clear S a; intro a S
        refine l_pure S (p_fieldAddr rfl (fun w => fa31_2 w _ _)) rfl rfl rfl ?_; clear S a; intro a S
        refine l_read S H (r_load rfl List.mem_cons_self rfl (fun w hc => ld1 ag4 hc)) rfl rfl rfl ?_; clear S a; intro a S
        refine l_nil ?_
        refine e_then ?_
        refine c_cond (b := false) S rfl (fun h => by cases h) (fun _ => ?_)
        refine wp_skip ?_
        refine e_then ?_
        refine wp_seq ?_
        refine c_region ?_
        refine l_pure S (p_move rfl) rfl rfl rfl ?_; clear S a; intro a S
        have hcon := rawread_ w s 500 ae ((H.old hlt).trans hE) (Nat.lt_of_lt_of_le hlt H.below.size) qe ((H.old hltU).trans hU) (Nat.lt_of_lt_of_le hltU H.below.size) h2000 (fun h => by rw [hr] at h; cases h)
        refine l_call S rfl rfl Tryd.func10 rfl rfl hcon rfl rfl rfl ?_
        rintro e w ⟨hb, hcase⟩
        obtain ⟨lf, hlf, rfl⟩ : ∃ lf : Nat, lf + c1 = ByteArray.size s ∧ e = .returned (.tuple #[.string (strOfNums ((ints s).take c1)), .int .i64 (lf : Int), .int .i64 0]) := by rcases hcase with ⟨h2, _⟩ | ⟨cc, h2, lf, h3, h4⟩; rw [hr] at h2; cases h2; rw [hr] at h2; cases h2; exact ⟨lf, h3, h4⟩
        · skip
          refine ⟨_, rfl, ?_⟩; clear S a; intro a S; clear hcon; replace H := H.later hb; clear hb
          refine l_pure S (p_move rfl) rfl rfl rfl ?_; clear S a; intro a S
          refine l_pure S (p_extract rfl rfl) rfl rfl rfl ?_; clear S a; intro a S
          refine l_pure S (p_extract rfl rfl) rfl rfl rfl ?_; clear S a; intro a S
          refine l_pure S (p_extract rfl rfl) rfl rfl rfl ?_; clear S a; intro a S
          refine l_pure S (p_assign rfl) rfl rfl rfl ?_; clear S a; intro a S
          refine l_pure S (p_assign rfl) rfl rfl rfl ?_; clear S a; intro a S
          refine l_pure S (p_assign rfl) rfl rfl rfl ?_; clear S a; intro a S
          refine l_nil ?_
          refine e_then ?_
          refine wp_seq ?_
          refine c_region ?_
          have hcon := rawread_ w ⟨#[58, 49, 13, 10]⟩ 500 ae ((H.old hlt).trans hE) (Nat.lt_of_lt_of_le hlt H.below.size) qe ((H.old hltU).trans hU) (Nat.lt_of_lt_of_le hltU H.below.size) (by decide) (fun h => by rw [raw_one] at h; cases h)
          refine l_call S rfl rfl Tryd.func10 rfl rfl hcon rfl rfl rfl ?_
          rintro e w ⟨hb, hcase⟩
          obtain ⟨lf2, hlf2, rfl⟩ : ∃ lf : Nat, lf + 4 = ByteArray.size (⟨#[58, 49, 13, 10]⟩ : ByteArray) ∧ e = .returned (.tuple #[.string (strOfNums ((ints (⟨#[58, 49, 13, 10]⟩ : ByteArray)).take 4)), .int .i64 (lf : Int), .int .i64 0]) := by rcases hcase with ⟨h2, _⟩ | ⟨cc, h2, lf, h3, h4⟩; rw [raw_one] at h2; cases h2; rw [raw_one] at h2; cases h2; exact ⟨lf, h3, h4⟩
          · skip
            refine ⟨_, rfl, ?_⟩; clear S a; intro a S; clear hcon; replace H := H.later hb; clear hb
            refine l_pure S (p_move rfl) rfl rfl rfl ?_; clear S a; intro a S
            refine l_pure S (p_extract rfl rfl) rfl rfl rfl ?_; clear S a; intro a S
            refine l_pure S (p_extract rfl rfl) rfl rfl rfl ?_; clear S a; intro a S
            refine l_pure S (p_extract rfl rfl) rfl rfl rfl ?_; clear S a; intro a S
            refine l_pure S (p_assign rfl) rfl rfl rfl ?_; clear S a; intro a S
            refine l_pure S (p_assign rfl) rfl rfl rfl ?_; clear S a; intro a S
            refine l_pure S (p_assign rfl) rfl rfl rfl ?_; clear S a; intro a S
            refine l_nil ?_
            refine e_then ?_
            refine wp_seq ?_
            refine wp_seq ?_
            refine c_region ?_
            refine l_pure S (p_move rfl) rfl rfl rfl ?_; clear S a; intro a S
            refine l_pure S (p_not rfl) rfl rfl rfl ?_; clear S a; intro a S
            refine l_nil ?_
            refine e_then ?_
            refine c_cond (b := false) S rfl (fun h => by cases h) (fun _ => ?_)
            refine wp_skip ?_
            refine e_then ?_
            refine wp_seq ?_
            refine c_region ?_
            refine l_pure S (p_move rfl) rfl rfl rfl ?_; clear S a; intro a S
            refine l_pure S (p_eql rfl rfl) rfl rfl rfl ?_; clear S a; intro a S
            refine l_pure S (p_move rfl) rfl rfl rfl ?_; clear S a; intro a S
            refine l_on S rfl rfl rfl rfl rfl ?_
            refine l_pure S (p_move rfl) rfl rfl rfl ?_; clear S a; intro a S
            refine l_on S rfl rfl rfl rfl rfl ?_
            refine l_pure S (p_move rfl) rfl rfl rfl ?_; clear S a; intro a S
            refine l_on S rfl rfl rfl rfl rfl ?_
            refine l_pure S (p_move rfl) rfl rfl rfl ?_; clear S a; intro a S
            refine l_on S rfl rfl rfl rfl rfl ?_
            refine l_pure S (p_nilCheck rfl) rfl rfl rfl ?_; clear S a; intro a S
            refine l_on S rfl rfl rfl rfl rfl ?_
            refine l_pure S (p_fieldAddr rfl (fun w => fa31_1 w _ _)) rfl rfl rfl ?_; clear S a; intro a S
            refine l_on S rfl rfl rfl rfl rfl ?_
            refine l_read S H (r_load rfl List.mem_cons_self rfl (fun w hc => ld1 ag3 hc)) rfl rfl rfl ?_; clear S a; intro a S
            refine l_on S rfl rfl rfl rfl rfl ?_
            refine l_pure S (p_slice rfl (fun _ _ => o_none) (o_some rfl) (fun _ _ => o_none) (fun w => sl_string_hi Tryd.underlying9 (by omega) (by omega))) rfl rfl rfl ?_; clear S a; intro a S
            refine l_on S rfl rfl rfl rfl rfl ?_
            refine l_pure S (p_seql rfl rfl) rfl rfl rfl ?_; clear S a; intro a S
            refine l_pure S (p_pick_t rfl rfl rfl) rfl rfl rfl ?_; clear S a; intro a S
            refine l_pure S (p_move rfl) rfl rfl rfl ?_; clear S a; intro a S
            refine l_on S rfl rfl rfl rfl (took_eq (by omega)) ?_
            refine l_pure S (p_move rfl) rfl rfl rfl ?_; clear S a; intro a S
            refine l_on S rfl rfl rfl rfl (took_eq (by omega)) ?_
            refine l_pure S (p_move rfl) rfl rfl rfl ?_; clear S a; intro a S
            refine l_on S rfl rfl rfl rfl (took_eq (by omega)) ?_
            refine l_call S rfl rfl Tryd.func11 rfl rfl (sp.left_ wb _ _ _ gt s (0 + c1) 0 false H (by omega) (by omega)) rfl rfl rfl ?_
            rintro e w ⟨rfl, hH⟩
            refine ⟨_, rfl, ?_⟩; clear S a; intro a S
            clear H; have H := hH; clear hH
            refine l_on S rfl rfl rfl rfl (took_eq (by omega)) ?_
            refine l_pure S (p_eql rfl rfl) rfl rfl rfl ?_; clear S a; intro a S
            refine l_pure S (p_pick_t rfl (took_eq (by omega)) rfl) rfl rfl rfl ?_; clear S a; intro a S
            refine l_pure S (p_assign rfl) rfl rfl rfl ?_; clear S a; intro a S
            refine l_nil ?_
            refine e_then ?_
            refine wp_ret ?_
            first | exact r_ret1 S rfl rfl ⟨rfl, H.below⟩ | exact r_ret1 S rfl rfl ⟨by rw [show ((lf : Int) == ((s.size - (0 + c1) : Nat) : Int)) = true from beq_iff_eq.2 (by omega)], H.below⟩
end rf
end Go.Proofs.YtnmelglnkefjfaaDoor.rr
