/- So many bytes gone by: by a buffered reader, or by reads. -/
import Derived.Test.YtnmelglnkefjfaaDoorBy
namespace Go.Proofs.YtnmelglnkefjfaaDoor.sk
open Go.RowKit Go.Proofs.HHW Go.Proofs.YtnmelglnkefjfaaDoorW.PrintWords
set_option linter.unusedVariables false
set_option linter.unusedSimpArgs false
namespace nd
theorem taB (w : World) (g : Nat) : (Instr.typeAssert (.iface 102 (.pointer (some ⟨g, 0, none⟩))) 52 76 true).run Tryd.prog w = .ok (.tuple #[.iface 102 (.pointer (some ⟨g, 0, none⟩)), .bool true]) w := by kernel_rfl
theorem meDis (w : World) (ad : Addr) : (method (Tryd.prog.types.size + Made.depth) 102 (.pointer (some ad)) "Discard").run Tryd.prog w = .ok (123, .pointer (some ad)) w := by kernel_rfl
theorem ag49 : aggB Tryd.prog 49 = some false := by kernel_rfl
theorem ag55 : aggB Tryd.prog 55 = some false := by kernel_rfl
theorem sz5 : szB Tryd.prog 5 = some 1 := by kernel_rfl
theorem sz55 : szB Tryd.prog 55 = some 1 := by kernel_rfl
theorem zv76 : zvB Tryd.prog 76 = some (.nilIface) := by kernel_rfl
theorem zv80 : zvB Tryd.prog 80 = some (.nilIface) := by kernel_rfl
theorem in5 : (Tryd.prog.info? 5).map (fun i => (i.zero, i.size, i.bytes)) = some (some (.int .u8 0), 1, 1) := by kernel_rfl
theorem nd_b (wb w0 : World) (L0 : dc.Bk) (g gb gr : Nat) (cs : Array Value) (r : Nat) (vis : List Int) (s : ByteArray) (Az : Option Addr) (zs : List Int) (cz ap : Nat) (lb lr : Int) (n tot gs : Nat) (ae : Addr) (hE : wb.cell? ⟨0, 0, none⟩ = some (.iface 143 (.pointer (some ae)))) (hlt : 0 < wb.heap.size) (H : HH wb.heap.size wb w0 ((g, .cells #[.slice (some ⟨gb, 0, none⟩) 4096 4096, .iface 42 (.pointer (some ⟨gr, 0, none⟩)), .int .i64 (r : Int), .int .i64 ((r + vis.length : Nat) : Int), .nilIface, .int .i64 lb, .int .i64 lr] 153 (0, 0)) :: (gb, .cells cs 5 (0, 0)) :: (gr, .cells #[.string s, .slice Az zs.length cz, .int .i64 (ap : Int), .bool false] 86 (0, 0)) :: (gs, .cells #[.slice none 0 0] 55 (0, 0)) :: L0)) (hcs : cs.size = 4096) (hrow : bf.Row cs r vis) (hw : r + vis.length ≤ 4096) (hC : (Kd.int .i64).C wb Az zs.length zs) (hpos : zs = [] ∨ dc.pos zs zs.length = true) (hz : zs.length < 100) (hs : s.size ≤ 1000000) (hn2 : n ≤ 1000000) (ha : ap + 100 * n ≤ 1000000000000) (htot : vis.length + s.size = tot) : Calls Tryd.prog 18 #[.iface 102 (.pointer (some ⟨g, 0, none⟩)), .int .i64 (n : Int), .pointer (some ⟨gs, 0, none⟩)] w0 fun e w' => ∃ (r' : Nat) (vis' : List Int) (s' : ByteArray) (cs' : Array Value) (ap' : Nat) (er : Value) (lb' lr' : Int), e = .returned er ∧ r' + vis'.length ≤ 4096 ∧ s'.size ≤ 1000000 ∧ HH wb.heap.size wb w' ((g, .cells #[.slice (some ⟨gb, 0, none⟩) 4096 4096, .iface 42 (.pointer (some ⟨gr, 0, none⟩)), .int .i64 (r' : Int), .int .i64 ((r' + vis'.length : Nat) : Int), .nilIface, .int .i64 lb', .int .i64 lr'] 153 (0, 0)) :: (gb, .cells cs' 5 (0, 0)) :: (gr, .cells #[.string s', .slice Az zs.length cz, .int .i64 (ap' : Int), .bool false] 86 (0, 0)) :: L0) ∧ ((n ≤ tot ∧ er = .nilIface ∧ vis'.length + s'.size + n = tot) ∨ (tot < n ∧ ∃ q, er = .iface 143 (.pointer (some q)))) := by
  refine c_enter (args := [.iface 102 (.pointer (some ⟨g, 0, none⟩)), .int .i64 (n : Int), .pointer (some ⟨gs, 0, none⟩)]) (k := 83) Tryd.func18 rfl rfl rfl (fun a S => ?_)
  refine wp_seq ?_
  refine c_region ?_
  refine l_pure S (p_assign rfl) rfl rfl rfl ?_; clear S a; intro a S
  refine l_nil ?_
  refine e_then ?_
  refine wp_seq ?_
  refine wp_seq ?_
  refine c_region ?_
  refine l_pure S (p_move rfl) rfl rfl rfl ?_; clear S a; intro a S
  refine l_pure S (p_eql rfl rfl) rfl rfl rfl ?_; clear S a; intro a S
  refine l_nil ?_
  refine e_then ?_
  refine c_cond S rfl (fun c2 => ?_) (fun c2 => ?_)
  · skip
    have c2 := eq_of_beq c2
    refine wp_seq ?_
    refine c_region ?_
    refine l_pure S (p_assign rfl) rfl rfl rfl ?_; clear S a; intro a S
    refine l_nil ?_
    refine e_then ?_
    refine wp_ret ?_
    refine e_then_ret ?_
    exact r_ret1 S rfl rfl ⟨r, vis, s, cs, ap, .nilIface, lb, lr, rfl, hw, hs, H.sub (List.Sublist.cons_cons _ (List.Sublist.cons_cons _ (List.Sublist.cons_cons _ (List.Sublist.cons _ (List.Sublist.refl _))))), .inl ⟨by omega, rfl, by omega⟩⟩
  · skip
    have c2 := ne_of_beq_false c2
    refine wp_skip ?_
    refine e_then ?_
    refine wp_seq ?_
    refine wp_seq ?_
    refine c_region ?_
    refine l_pure S (p_move rfl) rfl rfl rfl ?_; clear S a; intro a S
    refine l_nil ?_
    refine e_then ?_
    refine wp_block ?_
    refine wp_seq ?_
    refine c_region ?_
    refine l_pure S (p_ta rfl (fun w => taB w _)) rfl rfl rfl ?_; clear S a; intro a S
    refine l_pure S (p_extract rfl rfl) rfl rfl rfl ?_; clear S a; intro a S
    refine l_pure S (p_extract rfl rfl) rfl rfl rfl ?_; clear S a; intro a S
    refine l_nil ?_
    refine e_then ?_
    refine c_cond (b := true) S rfl (fun _ => ?_) (fun h => by cases h)
    refine wp_seq ?_
    refine c_region ?_
    refine l_pure S (p_assign rfl) rfl rfl rfl ?_; clear S a; intro a S
    refine l_nil ?_
    refine e_then ?_
    refine wp_seq ?_
    refine c_region ?_
    refine l_pure S (p_move rfl) rfl rfl rfl ?_; clear S a; intro a S
    refine l_pure S (p_move rfl) rfl rfl rfl ?_; clear S a; intro a S
    have hcon := bu.di.discard_ wb _ _ g gb gr cs r vis s Az zs cz ap lb lr n tot ae hE hlt H hcs hrow hw hC hpos hz hs (by omega) hn2 ha htot
    refine l_invoke S rfl rfl rfl (meDis _ _) Tryd.func123 rfl rfl hcon rfl rfl rfl ?_
    rintro e w ⟨r', vis', s', cs', ap', m, er, rfl, hcs', hrow', hw', hs', hap', hH, hcase⟩
    refine ⟨_, rfl, ?_⟩; clear S a; intro a S; clear hcon H; have H := hH; clear hH
    refine l_pure S (p_move rfl) rfl rfl rfl ?_; clear S a; intro a S
    refine l_pure S (p_extract rfl rfl) rfl rfl rfl ?_; clear S a; intro a S
    refine l_pure S (p_extract rfl rfl) rfl rfl rfl ?_; clear S a; intro a S
    refine l_pure S (p_assign rfl) rfl rfl rfl ?_; clear S a; intro a S
    refine l_pure S (p_assign rfl) rfl rfl rfl ?_; clear S a; intro a S
    refine l_nil ?_
    refine e_then ?_
    refine wp_seq ?_
    refine c_region ?_
    refine l_pure S (p_move rfl) rfl rfl rfl ?_; clear S a; intro a S
    refine l_pure S (p_assign rfl) rfl rfl rfl ?_; clear S a; intro a S
    refine l_nil ?_
    refine e_then ?_
    refine wp_ret ?_
    refine e_in_ret ?_
    refine e_then_ret ?_
    refine r_ret1 S rfl rfl ⟨r', vis', s', cs', ap', er, _, _, rfl, hw', hs', H.sub (List.Sublist.cons_cons _ (List.Sublist.cons_cons _ (List.Sublist.cons_cons _ (List.Sublist.cons _ (List.Sublist.refl _))))), ?_⟩
    rcases hcase with h | ⟨h1, h2⟩
    · exact .inl h
    · exact .inr ⟨h1, _, h2⟩
set_option maxHeartbeats 1000000 in
theorem nd_p (wb w0 : World) (L0 : dc.Bk) (g gb gr : Nat) (cs : Array Value) (r : Nat) (vis : List Int) (s : ByteArray) (Az : Option Addr) (zs : List Int) (cz ap : Nat) (lb lr : Int) (n tot gs : Nat) (ae : Addr) (hE : wb.cell? ⟨0, 0, none⟩ = some (.iface 143 (.pointer (some ae)))) (hlt : 0 < wb.heap.size) (qe : Addr) (hU : wb.cell? ⟨1, 0, none⟩ = some (.iface 143 (.pointer (some qe)))) (hltU : 1 < wb.heap.size) (H : HH wb.heap.size wb w0 ((g, .cells #[.slice (some ⟨gb, 0, none⟩) 4096 4096, .iface 42 (.pointer (some ⟨gr, 0, none⟩)), .int .i64 (r : Int), .int .i64 ((r + vis.length : Nat) : Int), .nilIface, .int .i64 lb, .int .i64 lr] 153 (0, 0)) :: (gb, .cells cs 5 (0, 0)) :: (gr, .cells #[.string s, .slice Az zs.length cz, .int .i64 (ap : Int), .bool false] 86 (0, 0)) :: (gs, .cells #[.slice none 0 0] 55 (0, 0)) :: L0)) (hcs : cs.size = 4096) (hrow : bf.Row cs r vis) (hw : r + vis.length ≤ 4096) (hC : (Kd.int .i64).C wb Az zs.length zs) (hpos : zs = [] ∨ dc.pos zs zs.length = true) (hz : zs.length < 100) (hs : s.size ≤ 1000000) (hn2 : n ≤ 5000) (hvis : vis = []) (hM : ∃ M, dc.Prog zs ap s.size M ∧ ap + M ≤ 1000000000000) (htot : vis.length + s.size = tot) : Calls Tryd.prog 18 #[.iface 42 (.pointer (some ⟨gr, 0, none⟩)), .int .i64 (n : Int), .pointer (some ⟨gs, 0, none⟩)] w0 fun e w' => ∃ (r' : Nat) (vis' : List Int) (s' : ByteArray) (cs' : Array Value) (ap' : Nat) (er : Value) (lb' lr' : Int), e = .returned er ∧ r' + vis'.length ≤ 4096 ∧ s'.size ≤ 1000000 ∧ HH wb.heap.size wb w' ((g, .cells #[.slice (some ⟨gb, 0, none⟩) 4096 4096, .iface 42 (.pointer (some ⟨gr, 0, none⟩)), .int .i64 (r' : Int), .int .i64 ((r' + vis'.length : Nat) : Int), .nilIface, .int .i64 lb', .int .i64 lr'] 153 (0, 0)) :: (gb, .cells cs' 5 (0, 0)) :: (gr, .cells #[.string s', .slice Az zs.length cz, .int .i64 (ap' : Int), .bool false] 86 (0, 0)) :: L0) ∧ ((n ≤ tot ∧ er = .nilIface ∧ vis'.length + s'.size + n = tot) ∨ (tot < n ∧ ∃ q, er = .iface 143 (.pointer (some q)))) := by
  refine c_enter (args := [.iface 42 (.pointer (some ⟨gr, 0, none⟩)), .int .i64 (n : Int), .pointer (some ⟨gs, 0, none⟩)]) (k := 83) Tryd.func18 rfl rfl rfl (fun a S => ?_)
  refine wp_seq ?_
  refine c_region ?_
  refine l_pure S (p_assign rfl) rfl rfl rfl ?_; clear S a; intro a S
  refine l_nil ?_
  refine e_then ?_
  refine wp_seq ?_
  refine wp_seq ?_
  refine c_region ?_
  refine l_pure S (p_move rfl) rfl rfl rfl ?_; clear S a; intro a S
  refine l_pure S (p_eql rfl rfl) rfl rfl rfl ?_; clear S a; intro a S
  refine l_nil ?_
  refine e_then ?_
  refine c_cond S rfl (fun c2 => ?_) (fun c2 => ?_)
  · skip
    have c2 := eq_of_beq c2
    refine wp_seq ?_
    refine c_region ?_
    refine l_pure S (p_assign rfl) rfl rfl rfl ?_; clear S a; intro a S
    refine l_nil ?_
    refine e_then ?_
    refine wp_ret ?_
    refine e_then_ret ?_
    exact r_ret1 S rfl rfl ⟨r, vis, s, cs, ap, .nilIface, lb, lr, rfl, hw, hs, H.sub (List.Sublist.cons_cons _ (List.Sublist.cons_cons _ (List.Sublist.cons_cons _ (List.Sublist.cons _ (List.Sublist.refl _))))), .inl ⟨by omega, rfl, by omega⟩⟩
  · skip
    have c2 := ne_of_beq_false c2
    refine wp_skip ?_
    refine e_then ?_
    refine wp_seq ?_
    refine wp_seq ?_
    refine c_region ?_
    refine l_pure S (p_move rfl) rfl rfl rfl ?_; clear S a; intro a S
    refine l_nil ?_
    refine e_then ?_
    refine wp_block ?_
    refine wp_seq ?_
    refine c_region ?_
    refine l_pure S (p_ta rfl (fun w => ta_no (x := "Discard") Tryd.underlying76 (by kernel_rfl) zv76 w)) rfl rfl rfl ?_; clear S a; intro a S
    refine l_pure S (p_extract rfl rfl) rfl rfl rfl ?_; clear S a; intro a S
    refine l_pure S (p_extract rfl rfl) rfl rfl rfl ?_; clear S a; intro a S
    refine l_nil ?_
    refine e_then ?_
    refine c_cond (b := false) S rfl (fun h => by cases h) (fun _ => ?_)
    refine wp_seq ?_
    refine c_region ?_
    refine l_pure S (p_ta rfl (fun w => ta_no (x := "Seek") Tryd.underlying80 (by kernel_rfl) zv80 w)) rfl rfl rfl ?_; clear S a; intro a S
    refine l_pure S (p_extract rfl rfl) rfl rfl rfl ?_; clear S a; intro a S
    refine l_pure S (p_extract rfl rfl) rfl rfl rfl ?_; clear S a; intro a S
    refine l_nil ?_
    refine e_then ?_
    refine c_cond (b := false) S rfl (fun h => by cases h) (fun _ => ?_)
    refine wp_skip ?_
    refine e_in 0 ?_
    refine e_then ?_
    refine wp_seq ?_
    refine d_start (id := 12) [10] 11 #[false, false, false, false, false, false, false, false, false, false, false] H rfl rfl rfl (fun w H => ?_)
    refine d_pure (i := 0) #[true, false, false, false, false, false, false, false, false, false, false] S rfl (p_move rfl) (wanted_none rfl) rfl rfl (by kernel_rfl) (fun _ _ _ h => h) ?_; clear S a; intro a S
    refine d_pure (i := 1) #[true, true, false, false, false, false, false, false, false, false, false] S rfl (p_move rfl) (wanted_none rfl) rfl rfl (by kernel_rfl) (fun _ _ _ h => h) ?_; clear S a; intro a S
    refine d_pure (i := 2) #[true, true, true, false, false, false, false, false, false, false, false] S rfl (p_nilCheck rfl) (wanted_none rfl) rfl rfl (by kernel_rfl) (fun _ _ _ h => h) ?_; clear S a; intro a S
    refine d_read (i := 3) #[true, true, true, true, false, false, false, false, false, false, false] S H rfl (r_load rfl (List.mem_cons_of_mem _ (List.mem_cons_of_mem _ (List.mem_cons_of_mem _ List.mem_cons_self))) rfl (fun w hc => ld1 ag55 hc)) (wanted_none rfl) rfl rfl (by kernel_rfl) (fun _ _ _ h => h) ?_; clear S a; intro a S
    refine d_pure (i := 4) #[true, true, true, true, true, false, false, false, false, false, false] S rfl (p_move rfl) (wanted_none rfl) rfl rfl (by kernel_rfl) (fun _ _ _ h => h) ?_; clear S a; intro a S
    refine d_pure (i := 5) #[true, true, true, true, true, true, false, false, false, false, false] S rfl (p_nilCheck rfl) (wanted_none rfl) rfl rfl (by kernel_rfl) (fun _ _ _ h => h) ?_; clear S a; intro a S
    refine d_read (i := 6) #[true, true, true, true, true, true, true, false, false, false, false] S H rfl (r_load rfl (List.mem_cons_of_mem _ (List.mem_cons_of_mem _ (List.mem_cons_of_mem _ List.mem_cons_self))) rfl (fun w hc => ld1 ag55 hc)) (wanted_none rfl) rfl rfl (by kernel_rfl) (fun _ _ _ h => h) ?_; clear S a; intro a S
    refine d_pure (i := 7) #[true, true, true, true, true, true, true, true, false, false, false] S rfl (p_cap Tryd.underlying55 rfl) (wanted_none rfl) rfl rfl (by kernel_rfl) (fun _ _ _ h => h) ?_; clear S a; intro a S
    refine d_pure (i := 8) #[true, true, true, true, true, true, true, true, true, false, false] S rfl (p_slice rfl (fun _ _ => o_none) (o_some rfl) (fun _ _ => o_none) (fun w => sl_hi (m := 0) Tryd.underlying55 sz5 rfl (by omega))) (wanted_none rfl) rfl rfl (by kernel_rfl) (fun _ _ _ h => h) ?_; clear S a; intro a S
    refine d_pure (i := 9) #[true, true, true, true, true, true, true, true, true, true, false] S rfl (p_nilCheck rfl) (wanted_none rfl) rfl rfl (by kernel_rfl) (fun _ _ _ h => h) ?_; clear S a; intro a S
    refine d_store (i := 10) #[true, true, true, true, true, true, true, true, true, true, true] S H rfl rfl rfl rfl (.there (.there (.there .here))) (by first | decide | simp [Value.cells]) (fun w u hc hz => st1 sz55 rfl hc hz) (wanted_none rfl) rfl (by kernel_rfl) rfl ?_; clear S a H; intro w a H S
    refine d_done (by kernel_rfl) ?_
    refine e_then ?_
    refine wp_seq ?_
    refine wp_seq ?_
    refine c_region ?_
    refine l_pure S (p_move rfl) rfl rfl rfl ?_; clear S a; intro a S
    refine l_pure S (p_nilCheck rfl) rfl rfl rfl ?_; clear S a; intro a S
    refine l_read S H (r_load rfl (List.mem_cons_of_mem _ (List.mem_cons_of_mem _ (List.mem_cons_of_mem _ List.mem_cons_self))) rfl (fun w hc => ld1 ag55 hc)) rfl rfl rfl ?_; clear S a; intro a S
    refine l_pure S (p_len Tryd.underlying55 rfl) rfl rfl rfl ?_; clear S a; intro a S
    refine l_pure S (p_move rfl) rfl rfl rfl ?_; clear S a; intro a S
    refine l_pure S (p_lss rfl rfl) rfl rfl rfl ?_; clear S a; intro a S
    refine l_nil ?_
    refine e_then ?_
    refine c_cond S rfl (fun c8 => ?_) (fun c8 => by have c8 := of_decide_eq_false c8; exfalso; omega)
    have c8 := of_decide_eq_true c8
    refine c_region ?_
    refine l_pure S (p_move rfl) rfl rfl rfl ?_; clear S a; intro a S
    refine l_make (l := 8192) (c := 8192) S H rfl rfl rfl Tryd.underlying55 in5 (by omega) (by omega) (by omega) rfl rfl rfl ?_; clear S a H; intro gm cm w a hcm H S
    refine l_pure S (p_nilCheck rfl) rfl rfl rfl ?_; clear S a; intro a S
    refine l_store S H rfl rfl rfl (.there (.there (.there (.there .here)))) (by first | decide | simp [Value.cells]) (fun w u hc hz => st1 sz55 rfl hc hz) rfl rfl ?_; clear S a H; intro w a H S
    refine l_nil ?_
    refine e_then ?_
    refine wp_block ?_
    obtain ⟨M, hM, hM2⟩ := hM
    refine c_loop (σ := Nat × ByteArray × Nat × Array Value × Nat) (fun s_ a w => match s_ with | ⟨rem, s2, a2, cm, M2⟩ => SL a 86 [] [(0, .iface 42 (.pointer (some ⟨gr, 0, none⟩))), (1, .int .i64 (rem : Int)), (2, .pointer (some ⟨gs, 0, none⟩))] ∧ HH (wb.heap.size) wb w ((gm, .cells cm 5 (0, 0)) :: (g, .cells #[.slice (some ⟨gb, 0, none⟩) 4096 4096, .iface 42 (.pointer (some ⟨gr, 0, none⟩)), .int .i64 (r : Int), .int .i64 ((r + vis.length : Nat) : Int), .nilIface, .int .i64 lb, .int .i64 lr] 153 (0, 0)) :: (gb, .cells cs 5 (0, 0)) :: (gr, .cells #[.string s2, .slice Az zs.length cz, .int .i64 (a2 : Int), .bool false] 86 (0, 0)) :: (gs, .cells #[.slice (some ⟨gm, 0, none⟩) 8192 8192] 55 (0, 0)) :: L0) ∧ (0 < rem ∧ rem ≤ n ∧ s2.size ≤ 1000000 ∧ cm.size = 8192 ∧ vis = [] ∧ s2.size + n = tot + rem ∧ dc.Prog zs a2 s2.size M2 ∧ a2 + M2 ≤ 1000000000000)) (fun s_ => match s_ with | ⟨rem, s2, a2, cm, M2⟩ => M2) ⟨n, s, ap, cm, M⟩ ⟨S.only ⟨rfl, rfl, rfl, trivial⟩, H, ⟨by omega, Nat.le_refl _, hs, hcm, hvis, by subst hvis; simp at htot; omega, hM, hM2⟩⟩ ?_
    clear S a H; rintro ⟨rem, s2, a2, cm, M2⟩ a w ⟨S, H, hinv⟩
    obtain ⟨hrem, hremn, hs2, hcm, hvis, hsum, hP, hP2⟩ := hinv
    refine wp_block ?_
    refine wp_seq ?_
    refine c_region ?_
    refine l_pure S (p_move rfl) rfl rfl rfl ?_; clear S a; intro a S
    refine l_pure S (p_nilCheck rfl) rfl rfl rfl ?_; clear S a; intro a S
    refine l_read S H (r_load rfl (List.mem_cons_of_mem _ (List.mem_cons_of_mem _ (List.mem_cons_of_mem _ (List.mem_cons_of_mem _ List.mem_cons_self)))) rfl (fun w hc => ld1 ag55 hc)) rfl rfl rfl ?_; clear S a; intro a S
    refine l_pure S (p_assign rfl) rfl rfl rfl ?_; clear S a; intro a S
    refine l_nil ?_
    refine e_then ?_
    refine wp_seq ?_
    refine wp_seq ?_
    refine c_region ?_
    refine l_pure S (p_move rfl) rfl rfl rfl ?_; clear S a; intro a S
    refine l_pure S (p_len Tryd.underlying55 rfl) rfl rfl rfl ?_; clear S a; intro a S
    refine l_pure S (p_move rfl) rfl rfl rfl ?_; clear S a; intro a S
    refine l_pure S (p_gtr rfl rfl) rfl rfl rfl ?_; clear S a; intro a S
    refine l_nil ?_
    refine e_then ?_
    refine c_cond S rfl (fun c10 => ?_) (fun c10 => by have c10 := of_decide_eq_false c10; exfalso; omega)
    have c10 := of_decide_eq_true c10
    refine c_region ?_
    refine l_pure S (p_move rfl) rfl rfl rfl ?_; clear S a; intro a S
    refine l_pure S (p_move rfl) rfl rfl rfl ?_; clear S a; intro a S
    refine l_pure S (p_slice rfl (fun _ _ => o_none) (o_some rfl) (fun _ _ => o_none) (fun w => sl_hi (m := rem) Tryd.underlying55 sz5 rfl (by omega))) rfl rfl rfl ?_; clear S a; intro a S
    refine l_pure S (p_assign rfl) rfl rfl rfl ?_; clear S a; intro a S
    refine l_nil ?_
    refine e_then ?_
    refine wp_seq ?_
    refine c_region ?_
    refine l_pure S (p_move rfl) rfl rfl rfl ?_; clear S a; intro a S
    refine l_pure S (p_move rfl) rfl rfl rfl ?_; clear S a; intro a S
    have H2 : HH wb.heap.size wb w ((gr, _) :: (gm, _) :: ((g, _) :: (gb, _) :: (gs, _) :: L0)) := H.pull3.perm (List.Perm.cons _ (List.Perm.refl _))
    have hcon := rd.read_ wb w _ gr gm s2 Az zs cz a2 cm 0 rem 8192 (by omega) ae hE hlt H2 hC (by omega) (by omega) (by omega) hs2
    refine l_invoke S rfl rfl rfl (bu.meRead _ _) Tryd.func115 rfl rfl hcon rfl rfl rfl ?_; clear hcon H2
    rintro e w (⟨hs0, rfl, hH⟩ | ⟨hs1, rfl, hH⟩)
    · skip
      refine ⟨_, rfl, ?_⟩; clear S a; intro a S; clear H; have H : HH wb.heap.size wb w ((gm, _) :: (g, _) :: (gb, _) :: (gr, _) :: (gs, _) :: L0) := hH.perm ((List.Perm.swap _ _ _).trans (List.Perm.cons _ (List.perm_middle (l₁ := [_, _]) (a := (gr, _)) (l₂ := (gs, _) :: L0)).symm)); clear hH
      refine l_pure S (p_move rfl) rfl rfl rfl ?_; clear S a; intro a S
      refine l_pure S (p_extract rfl rfl) rfl rfl rfl ?_; clear S a; intro a S
      refine l_pure S (p_extract rfl rfl) rfl rfl rfl ?_; clear S a; intro a S
      refine l_pure S (p_assign rfl) rfl rfl rfl ?_; clear S a; intro a S
      refine l_pure S (p_assign rfl) rfl rfl rfl ?_; clear S a; intro a S
      refine l_nil ?_
      refine e_then ?_
      refine wp_seq ?_
      refine c_region ?_
      refine l_pure S (p_move rfl) rfl rfl rfl ?_; clear S a; intro a S
      refine l_pure S (p_move rfl) rfl rfl rfl ?_; clear S a; intro a S
      refine l_pure S (p_sub (r := (rem : Int)) rfl rfl (by rw [Int.sub_zero]; exact IntWalk.i64_in _ (by omega))) rfl rfl rfl ?_; clear S a; intro a S
      refine l_pure S (p_assign rfl) rfl rfl rfl ?_; clear S a; intro a S
      refine l_nil ?_
      refine e_then ?_
      refine wp_seq ?_
      refine c_region ?_
      refine l_pure S (p_move rfl) rfl rfl rfl ?_; clear S a; intro a S
      refine l_pure S (p_eql rfl rfl) rfl rfl rfl ?_; clear S a; intro a S
      refine l_nil ?_
      refine e_then ?_
      refine c_cond S rfl (fun h => by rw [(show ((rem : Int) == 0) = false from beq_eq_false_iff_ne.2 (by omega))] at h; cases h) (fun _ => ?_)
      refine wp_seq ?_
      refine c_region ?_
      refine l_pure S (p_move rfl) rfl rfl rfl ?_; clear S a; intro a S
      refine l_read S H (r_loadG rfl hE hlt ag49) rfl rfl rfl ?_; clear S a; intro a S
      refine l_call S rfl rfl Tryd.func37 rfl rfl (pc.zz_same wb _ _ _ ae H) rfl rfl rfl ?_
      rintro e w ⟨rfl, hH⟩
      refine ⟨_, rfl, ?_⟩; clear S a; intro a S
      clear H; have H := hH; clear hH
      refine l_nil ?_
      refine e_then ?_
      refine c_cond (b := true) S rfl (fun _ => ?_) (fun h => by cases h)
      refine wp_seq ?_
      refine c_region ?_
      refine l_read S H (r_loadG rfl hU hltU ag49) rfl rfl rfl ?_; clear S a; intro a S
      refine l_pure S (p_assign rfl) rfl rfl rfl ?_; clear S a; intro a S
      refine l_nil ?_
      refine e_then ?_
      refine wp_ret ?_
      refine e_in_ret ?_
      refine e_then_ret ?_
      refine e_in_ret ?_
      exact r_ret1 S rfl rfl ⟨r, vis, s2, cs, a2, _, lb, lr, rfl, hw, hs2, H.sub (List.Sublist.cons _ (List.Sublist.cons_cons _ (List.Sublist.cons_cons _ (List.Sublist.cons_cons _ (List.Sublist.cons _ (List.Sublist.refl _)))))), .inr ⟨by omega, qe, rfl⟩⟩
    · skip
      refine ⟨_, rfl, ?_⟩; clear S a; intro a S; clear H; have H : HH wb.heap.size wb w ((gm, _) :: (g, _) :: (gb, _) :: (gr, _) :: (gs, _) :: L0) := hH.perm ((List.Perm.swap _ _ _).trans (List.Perm.cons _ (List.perm_middle (l₁ := [_, _]) (a := (gr, _)) (l₂ := (gs, _) :: L0)).symm)); clear hH
      have hk := dc.took_le zs a2 s2.size rem
      have hkr : (dc.took zs a2 s2.size rem) ≤ rem := dc.took_room _ _ _ _
      obtain ⟨M3, hM3, hP3, hP4⟩ := hP.step (r := rem) hs1 hrem
      refine l_pure S (p_move rfl) rfl rfl rfl ?_; clear S a; intro a S
      refine l_pure S (p_extract rfl rfl) rfl rfl rfl ?_; clear S a; intro a S
      refine l_pure S (p_extract rfl rfl) rfl rfl rfl ?_; clear S a; intro a S
      refine l_pure S (p_assign rfl) rfl rfl rfl ?_; clear S a; intro a S
      refine l_pure S (p_assign rfl) rfl rfl rfl ?_; clear S a; intro a S
      refine l_nil ?_
      refine e_then ?_
      refine wp_seq ?_
      refine c_region ?_
      refine l_pure S (p_move rfl) rfl rfl rfl ?_; clear S a; intro a S
      refine l_pure S (p_move rfl) rfl rfl rfl ?_; clear S a; intro a S
      refine l_pure S (p_sub rfl rfl (nat_sub (x := rem) (y := (dc.took zs a2 s2.size rem)) (by omega) (by omega))) rfl rfl rfl ?_; clear S a; intro a S
      refine l_pure S (p_assign rfl) rfl rfl rfl ?_; clear S a; intro a S
      refine l_nil ?_
      refine e_then ?_
      refine wp_seq ?_
      refine c_region ?_
      refine l_pure S (p_move rfl) rfl rfl rfl ?_; clear S a; intro a S
      refine l_pure S (p_eql rfl rfl) rfl rfl rfl ?_; clear S a; intro a S
      refine l_nil ?_
      refine e_then ?_
      refine c_cond S rfl (fun c16 => ?_) (fun c16 => ?_)
      · skip
        have c16 := eq_of_beq c16
        refine wp_seq ?_
        refine c_region ?_
        refine l_pure S (p_assign rfl) rfl rfl rfl ?_; clear S a; intro a S
        refine l_nil ?_
        refine e_then ?_
        refine wp_ret ?_
        refine e_in_ret ?_
        refine e_then_ret ?_
        refine e_in_ret ?_
        subst hvis
        exact r_ret1 S rfl rfl ⟨r, [], _, cs, _, .nilIface, lb, lr, rfl, hw, by rw [dc.ext_size hk]; omega, H.sub (List.Sublist.cons _ (List.Sublist.cons_cons _ (List.Sublist.cons_cons _ (List.Sublist.cons_cons _ (List.Sublist.cons _ (List.Sublist.refl _)))))), .inl ⟨by omega, rfl, by rw [dc.ext_size hk]; simp; omega⟩⟩
      · skip
        have c16 := ne_of_beq_false c16
        refine wp_seq ?_
        refine c_region ?_
        refine l_pure S (p_move rfl) rfl rfl rfl ?_; clear S a; intro a S
        refine l_read S H (r_loadG rfl hE hlt ag49) rfl rfl rfl ?_; clear S a; intro a S
        refine l_call S rfl rfl Tryd.func37 rfl rfl (pc.zz_nil wb _ _ _ ae H) rfl rfl rfl ?_
        rintro e w ⟨rfl, hH⟩
        refine ⟨_, rfl, ?_⟩; clear S a; intro a S
        clear H; have H := hH; clear hH
        refine l_nil ?_
        refine e_then ?_
        refine c_cond (b := false) S rfl (fun h => by cases h) (fun _ => ?_)
        refine wp_seq ?_
        refine c_region ?_
        refine l_pure S (p_move rfl) rfl rfl rfl ?_; clear S a; intro a S
        refine l_pure S (p_nilnilN bu.mi49 rfl) rfl rfl rfl ?_; clear S a; intro a S
        refine l_nil ?_
        refine e_then ?_
        refine c_cond (b := false) S rfl (fun h => by cases h) (fun _ => ?_)
        refine wp_skip ?_
        refine e_in 2 ?_
        refine e_then ?_
        exact ⟨⟨rem - (dc.took zs a2 s2.size rem), _, _, _, M3⟩, ⟨S.only ⟨rfl, rfl, rfl, trivial⟩, H, ⟨by omega, by omega, by rw [dc.ext_size hk]; omega, by rw [spl_size]; exact hcm, hvis, by rw [dc.ext_size hk]; omega, by rw [dc.ext_size hk]; exact hP3, by omega⟩⟩, hM3⟩
end nd
end Go.Proofs.YtnmelglnkefjfaaDoor.sk
