/- The pieces of a wire; what an error says of the connection. -/
import Derived.Test.YtnmelglnkefjfaaDoorBx
import Derived.Test.YtnmelglnkefjfaaDoorBv
namespace Go.Proofs.YtnmelglnkefjfaaDoor.sk
open Go.RowKit Go.Proofs.HHW Go.Proofs.YtnmelglnkefjfaaDoorW.PrintWords
set_option linter.unusedVariables false
set_option linter.unusedSimpArgs false
namespace pc
theorem mkR (w : World) (g : Nat) : (Instr.makeInterface 42 (.pointer (some ⟨g, 0, none⟩))).run Tryd.prog w = .ok (.iface 42 (.pointer (some ⟨g, 0, none⟩))) w := by kernel_rfl
theorem bldP (gr g : Nat) : Tryd.prog.built 46 [(0, .pointer (some ⟨gr, 0, none⟩)), (1, .iface 102 (.pointer (some ⟨g, 0, none⟩)))] = some #[.pointer (some ⟨gr, 0, none⟩), .iface 102 (.pointer (some ⟨g, 0, none⟩))] := by kernel_rfl
theorem meBuf (w : World) (ad : Addr) : (method (Tryd.prog.types.size + Made.depth) 102 (.pointer (some ad)) "Buffered").run Tryd.prog w = .ok (122, .pointer (some ad)) w := by kernel_rfl
theorem taE (w : World) (v : Value) : (Instr.typeAssert (.iface 143 v) 49 88 true).run Tryd.prog w = .ok (.tuple #[.agg #[.nilIface], .bool false]) w := by kernel_rfl
theorem cmpE : (Tryd.prog.info? 143).map (fun i => i.comparable) = some true := by kernel_rfl
theorem ag42 : aggB Tryd.prog 42 = some false := by kernel_rfl
theorem ag44 : aggB Tryd.prog 44 = some false := by kernel_rfl
theorem ag46 : aggB Tryd.prog 46 = some true := by kernel_rfl
theorem ag71 : aggB Tryd.prog 71 = some false := by kernel_rfl
theorem ag9 : aggB Tryd.prog 9 = some false := by kernel_rfl
theorem fa46_0 (w : World) (g o : Nat) : (Instr.fieldAt 46 (.pointer (some ⟨g, o, none⟩)) 0).run Tryd.prog w = .ok (.pointer (some ⟨g, o + 0, none⟩)) w := by kernel_rfl
theorem fa46_1 (w : World) (g o : Nat) : (Instr.fieldAt 46 (.pointer (some ⟨g, o, none⟩)) 1).run Tryd.prog w = .ok (.pointer (some ⟨g, o + 1, none⟩)) w := by kernel_rfl
theorem fa74_3 (w : World) (g o : Nat) : (Instr.fieldAt 74 (.pointer (some ⟨g, o, none⟩)) 3).run Tryd.prog w = .ok (.pointer (some ⟨g, o + 3, none⟩)) w := by kernel_rfl
theorem fa86_0 (w : World) (g o : Nat) : (Instr.fieldAt 86 (.pointer (some ⟨g, o, none⟩)) 0).run Tryd.prog w = .ok (.pointer (some ⟨g, o + 0, none⟩)) w := by kernel_rfl
theorem sz46 : szB Tryd.prog 46 = some 2 := by kernel_rfl
theorem sz88 : szB Tryd.prog 88 = some 1 := by kernel_rfl
theorem zv46 : zvB Tryd.prog 46 = some (.agg #[.pointer none, .nilIface]) := by kernel_rfl
theorem zv88 : zvB Tryd.prog 88 = some (.agg #[.nilIface]) := by kernel_rfl
theorem pieces_ (wb w0 : World) (L0 : dc.Bk) (s : ByteArray) (Az : Option Addr) (zs : List Int) (cz : Nat) (H : HH wb.heap.size wb w0 L0) (hC : (Kd.int .i64).C wb Az zs.length zs) (hzc : zs.length ≤ cz) (hz : zs.length ≤ 50) (hs : s.size ≤ 1000000) : Calls Tryd.prog 17 #[.string s, .slice Az zs.length cz] w0 fun e w' => ∃ g gb gr cs A' zs' c', e = .returned (.agg #[.pointer (some ⟨gr, 0, none⟩), .iface 102 (.pointer (some ⟨g, 0, none⟩))]) ∧ cs.size = 4096 ∧ (zs' = [] ∨ dc.pos zs' zs'.length = true) ∧ zs'.length ≤ 50 ∧ (Kd.int .i64).C wb A' zs'.length zs' ∧ HH wb.heap.size wb w' ((g, .cells #[.slice (some ⟨gb, 0, none⟩) 4096 4096, .iface 42 (.pointer (some ⟨gr, 0, none⟩)), .int .i64 0, .int .i64 0, .nilIface, .int .i64 (-1), .int .i64 (-1)] 153 (0, 0)) :: (gb, .cells cs 5 (0, 0)) :: (gr, .cells #[.string s, .slice A' zs'.length c', .int .i64 ((0 : Nat) : Int), .bool false] 86 (0, 0)) :: L0) := by
  refine c_enter (args := [.string s, .slice Az zs.length cz]) (k := 16) Tryd.func17 rfl rfl rfl (fun a S => ?_)
  refine wp_seq ?_
  refine c_region ?_
  refine l_alloc (cs := _) S H rfl (fun w => al zv46) rfl rfl rfl ?_; clear S a H; intro g1 w a H S
  refine l_nil ?_
  refine e_then ?_
  refine wp_seq ?_
  refine c_region ?_
  refine l_pure S (p_move rfl) rfl rfl rfl ?_; clear S a; intro a S
  refine l_pure S (p_move rfl) rfl rfl rfl ?_; clear S a; intro a S
  have hcon := rd.newReader_ wb _ _ s Az zs cz H hC hzc (by omega) hs
  refine l_call S rfl rfl Tryd.func36 rfl rfl (hcon) rfl rfl rfl ?_
  rintro e w ⟨gr, A', zs', c', rfl, hpos, hz', hC', hzc', hH⟩
  refine ⟨_, rfl, ?_⟩; clear S a; intro a S
  clear H hcon; have H := hH; clear hH
  refine l_pure S (p_assign rfl) rfl rfl rfl ?_; clear S a; intro a S
  refine l_nil ?_
  refine e_then ?_
  refine wp_seq ?_
  refine c_region ?_
  refine l_pure S (p_move rfl) rfl rfl rfl ?_; clear S a; intro a S
  have hcon := bu.op.opts_ wb _ _ _ H
  refine l_call S rfl rfl Tryd.func30 rfl rfl (hcon) rfl rfl rfl ?_
  rintro e w ⟨go, p, r, rfl, hH⟩
  refine ⟨_, rfl, ?_⟩; clear S a; intro a S
  clear H hcon; have H := hH; clear hH
  refine l_pure S (p_nilCheck rfl) rfl rfl rfl ?_; clear S a; intro a S
  refine l_pure S (p_fieldAddr rfl (fun w => fa74_3 w _ _)) rfl rfl rfl ?_; clear S a; intro a S
  refine l_read S H (r_load rfl List.mem_cons_self rfl (fun w hc => ld1 ag71 hc)) rfl rfl rfl ?_; clear S a; intro a S
  refine l_pure S (p_move rfl) rfl rfl rfl ?_; clear S a; intro a S
  refine l_pure S (p_iface rfl (fun w => mkR w _)) rfl rfl rfl ?_; clear S a; intro a S
  have hcon := bu.mk.opts1_ wb _ _ _ gr H
  refine l_callv (us := []) (cs := []) S rfl rfl rfl Tryd.func45 rfl rfl hcon rfl rfl rfl ?_
  rintro e w ⟨g, gb, cs, rfl, hcs, hH⟩
  refine ⟨_, rfl, ?_⟩; clear S a; intro a S
  clear H hcon; have H := hH; clear hH
  refine l_pure S (p_bld (ps := [(0, .tmp 9), (1, .tmp 16)]) rfl (bldP gr g)) rfl rfl rfl ?_; clear S a; intro a S
  refine l_storeAll (vs := [.pointer (some ⟨gr, 0, none⟩), .iface 102 (.pointer (some ⟨g, 0, none⟩))]) S H rfl rfl rfl sz46 (.there (.there (.there (.there .here)))) rfl (fun v hv => by simp only [List.mem_cons, List.not_mem_nil, or_false] at hv; rcases hv with rfl | rfl <;> rfl) rfl rfl ?_; clear S a H; intro w a H S
  refine l_nil ?_
  refine e_then ?_
  refine wp_ret ?_
  exact r_retc1 S rfl rfl (lva (cs := [.pointer (some ⟨gr, 0, none⟩), .iface 102 (.pointer (some ⟨g, 0, none⟩))]) ag46 sz46 rfl H (List.mem_cons_of_mem _ (List.mem_cons_of_mem _ (List.mem_cons_of_mem _ (List.mem_cons_of_mem _ List.mem_cons_self))))) ⟨g, gb, gr, cs, A', zs', c', rfl, hcs, hpos, by omega, hC', H.sub (by simp)⟩
theorem source_false (wb w0 : World) (B : Nat) (L0 : dc.Bk) (g gr : Nat) (H : HH B wb w0 L0) : Calls Tryd.prog 19 #[.agg #[.pointer (some ⟨gr, 0, none⟩), .iface 102 (.pointer (some ⟨g, 0, none⟩))], .bool false] w0 fun e w' => e = .returned (.iface 102 (.pointer (some ⟨g, 0, none⟩))) ∧ HH B wb w' L0 := by
  refine c_enter (args := [.agg #[.pointer (some ⟨gr, 0, none⟩), .iface 102 (.pointer (some ⟨g, 0, none⟩))], .bool false]) (k := 9) Tryd.func19 rfl rfl rfl (fun a S => ?_)
  refine wp_seq ?_
  refine c_region ?_
  refine l_box (cs := #[.pointer (some ⟨gr, 0, none⟩), .iface 102 (.pointer (some ⟨g, 0, none⟩))]) S H rfl rfl (fun w => bx) rfl rfl rfl ?_; clear S a H; intro gx w a H S
  refine l_pure S (p_assign rfl) rfl rfl rfl ?_; clear S a; intro a S
  refine l_nil ?_
  refine e_then ?_
  refine wp_seq ?_
  refine wp_seq ?_
  refine c_region ?_
  refine l_pure S (p_move rfl) rfl rfl rfl ?_; clear S a; intro a S
  refine l_nil ?_
  refine e_then ?_
  refine c_cond (b := false) S rfl (fun h => by cases h) (fun _ => ?_)
  refine wp_skip ?_
  refine e_then ?_
  refine wp_seq ?_
  refine c_region ?_
  refine l_pure S (p_fieldAddr rfl (fun w => fa46_1 w _ _)) rfl rfl rfl ?_; clear S a; intro a S
  refine l_read S H (r_load rfl List.mem_cons_self rfl (fun w hc => ld1 ag44 hc)) rfl rfl rfl ?_; clear S a; intro a S
  refine l_pure S (p_assign rfl) rfl rfl rfl ?_; clear S a; intro a S
  refine l_nil ?_
  refine e_then ?_
  refine wp_ret ?_
  exact r_ret1 S rfl rfl ⟨rfl, H.tail⟩
theorem source_true (wb w0 : World) (B : Nat) (L0 : dc.Bk) (g gr : Nat) (H : HH B wb w0 L0) : Calls Tryd.prog 19 #[.agg #[.pointer (some ⟨gr, 0, none⟩), .iface 102 (.pointer (some ⟨g, 0, none⟩))], .bool true] w0 fun e w' => e = .returned (.iface 42 (.pointer (some ⟨gr, 0, none⟩))) ∧ HH B wb w' L0 := by
  refine c_enter (args := [.agg #[.pointer (some ⟨gr, 0, none⟩), .iface 102 (.pointer (some ⟨g, 0, none⟩))], .bool true]) (k := 9) Tryd.func19 rfl rfl rfl (fun a S => ?_)
  refine wp_seq ?_
  refine c_region ?_
  refine l_box (cs := #[.pointer (some ⟨gr, 0, none⟩), .iface 102 (.pointer (some ⟨g, 0, none⟩))]) S H rfl rfl (fun w => bx) rfl rfl rfl ?_; clear S a H; intro gx w a H S
  refine l_pure S (p_assign rfl) rfl rfl rfl ?_; clear S a; intro a S
  refine l_nil ?_
  refine e_then ?_
  refine wp_seq ?_
  refine wp_seq ?_
  refine c_region ?_
  refine l_pure S (p_move rfl) rfl rfl rfl ?_; clear S a; intro a S
  refine l_nil ?_
  refine e_then ?_
  refine c_cond (b := true) S rfl (fun _ => ?_) (fun h => by cases h)
  refine wp_seq ?_
  refine c_region ?_
  refine l_pure S (p_fieldAddr rfl (fun w => fa46_0 w _ _)) rfl rfl rfl ?_; clear S a; intro a S
  refine l_read S H (r_load rfl List.mem_cons_self rfl (fun w hc => ld1 ag42 hc)) rfl rfl rfl ?_; clear S a; intro a S
  refine l_pure S (p_iface rfl (fun w => mkR w _)) rfl rfl rfl ?_; clear S a; intro a S
  refine l_pure S (p_assign rfl) rfl rfl rfl ?_; clear S a; intro a S
  refine l_nil ?_
  refine e_then ?_
  refine wp_ret ?_
  refine e_then_ret ?_
  exact r_ret1 S rfl rfl ⟨rfl, H.tail⟩
theorem left_ (wb w0 : World) (B : Nat) (L0 : dc.Bk) (g gb gr : Nat) (cs : Array Value) (r : Nat) (vis : List Int) (s : ByteArray) (Az : Option Addr) (zs : List Int) (cz ap : Nat) (lb lr : Int) (H : HH B wb w0 ((g, .cells #[.slice (some ⟨gb, 0, none⟩) 4096 4096, .iface 42 (.pointer (some ⟨gr, 0, none⟩)), .int .i64 (r : Int), .int .i64 ((r + vis.length : Nat) : Int), .nilIface, .int .i64 lb, .int .i64 lr] 153 (0, 0)) :: (gb, .cells cs 5 (0, 0)) :: (gr, .cells #[.string s, .slice Az zs.length cz, .int .i64 (ap : Int), .bool false] 86 (0, 0)) :: L0)) (hw : r + vis.length ≤ 4096) (hs : s.size ≤ 1000000) : Calls Tryd.prog 20 #[.agg #[.pointer (some ⟨gr, 0, none⟩), .iface 102 (.pointer (some ⟨g, 0, none⟩))]] w0 fun e w' => e = .returned (.int .i64 ((vis.length + s.size : Nat) : Int)) ∧ HH B wb w' ((g, .cells #[.slice (some ⟨gb, 0, none⟩) 4096 4096, .iface 42 (.pointer (some ⟨gr, 0, none⟩)), .int .i64 (r : Int), .int .i64 ((r + vis.length : Nat) : Int), .nilIface, .int .i64 lb, .int .i64 lr] 153 (0, 0)) :: (gb, .cells cs 5 (0, 0)) :: (gr, .cells #[.string s, .slice Az zs.length cz, .int .i64 (ap : Int), .bool false] 86 (0, 0)) :: L0) := by
  refine c_enter (args := [.agg #[.pointer (some ⟨gr, 0, none⟩), .iface 102 (.pointer (some ⟨g, 0, none⟩))]]) (k := 12) Tryd.func20 rfl rfl rfl (fun a S => ?_)
  refine wp_seq ?_
  refine c_region ?_
  refine l_box (cs := #[.pointer (some ⟨gr, 0, none⟩), .iface 102 (.pointer (some ⟨g, 0, none⟩))]) S H rfl rfl (fun w => bx) rfl rfl rfl ?_; clear S a H; intro gx w a H S
  refine l_pure S (p_assign rfl) rfl rfl rfl ?_; clear S a; intro a S
  refine l_nil ?_
  refine e_then ?_
  refine wp_seq ?_
  refine d_start (id := 1) [] 11 #[false, false, false, false, false, false, false, false, false, false, false] H rfl rfl rfl (fun w H => ?_)
  refine d_pure (i := 0) #[true, false, false, false, false, false, false, false, false, false, false] S rfl (p_fieldAddr rfl (fun w => fa46_1 w _ _)) (wanted_none rfl) rfl rfl (by kernel_rfl) (fun _ _ _ h => h) ?_; clear S a; intro a S
  refine d_read (i := 1) #[true, true, false, false, false, false, false, false, false, false, false] S H rfl (r_load rfl List.mem_cons_self rfl (fun w hc => ld1 ag44 hc)) (wanted_none rfl) rfl rfl (by kernel_rfl) (fun _ _ _ h => h) ?_; clear S a; intro a S
  refine d_pure (i := 3) #[true, true, false, true, false, false, false, false, false, false, false] S rfl (p_fieldAddr rfl (fun w => fa46_0 w _ _)) (wanted_none rfl) rfl rfl (by kernel_rfl) (fun _ _ _ h => h) ?_; clear S a; intro a S
  refine d_read (i := 4) #[true, true, false, true, true, false, false, false, false, false, false] S H rfl (r_load rfl List.mem_cons_self rfl (fun w hc => ld1 ag42 hc)) (wanted_none rfl) rfl rfl (by kernel_rfl) (fun _ _ _ h => h) ?_; clear S a; intro a S
  refine d_pure (i := 5) #[true, true, false, true, true, true, false, false, false, false, false] S rfl (p_nilCheck rfl) (wanted_none rfl) rfl rfl (by kernel_rfl) (fun _ _ _ h => h) ?_; clear S a; intro a S
  refine d_pure (i := 6) #[true, true, false, true, true, true, true, false, false, false, false] S rfl (p_fieldAddr rfl (fun w => fa86_0 w _ _)) (wanted_none rfl) rfl rfl (by kernel_rfl) (fun _ _ _ h => h) ?_; clear S a; intro a S
  refine d_read (i := 7) #[true, true, false, true, true, true, true, true, false, false, false] S H rfl (r_load rfl (List.mem_cons_of_mem _ (List.mem_cons_of_mem _ (List.mem_cons_of_mem _ List.mem_cons_self))) rfl (fun w hc => ld1 ag9 hc)) (wanted_none rfl) rfl rfl (by kernel_rfl) (fun _ _ _ h => h) ?_; clear S a; intro a S
  refine d_pure (i := 8) #[true, true, false, true, true, true, true, true, true, false, false] S rfl (p_lens Tryd.underlying9 rfl) (wanted_none rfl) rfl rfl (by kernel_rfl) (fun _ _ _ h => h) ?_; clear S a; intro a S
  have hcon := bu.buffered_ wb w _ _ g gb gr r vis .nilIface lb lr H.pull1 hw
  refine d_invoke (i := 2) #[true, true, true, true, true, true, true, true, true, false, false] S rfl rfl rfl rfl (meBuf _ _) Tryd.func122 rfl rfl hcon (wanted_none rfl) rfl rfl (by kernel_rfl) rfl ?_
  rintro e w ⟨rfl, hH⟩
  clear hcon H; have H := hH.pull1; clear hH; refine ⟨_, rfl, H, ?_⟩; clear S a; intro a S
  refine d_pure (i := 9) #[true, true, true, true, true, true, true, true, true, true, false] S rfl (p_add rfl rfl (nat_add (x := vis.length) (y := s.size) (by omega))) (wanted_none rfl) rfl rfl (by kernel_rfl) (fun _ _ _ h => h) ?_; clear S a; intro a S
  refine d_pure (i := 10) #[true, true, true, true, true, true, true, true, true, true, true] S rfl (p_assign rfl) (wanted_none rfl) rfl rfl (by kernel_rfl) (fun _ _ _ h => h) ?_; clear S a; intro a S
  refine d_done (by kernel_rfl) ?_
  refine e_then ?_
  refine wp_ret ?_
  exact r_ret1 S rfl rfl ⟨rfl, H.tail⟩
theorem state_nil (wb w0 : World) (B : Nat) (L0 : dc.Bk) (H : HH B wb w0 L0) : Calls Tryd.prog 21 #[.nilIface] w0 fun e w' => e = .returned (.int .i64 0) ∧ HH B wb w' L0 := by
  refine c_enter (args := [.nilIface]) (k := 22) Tryd.func21 rfl rfl rfl (fun a S => ?_)
  refine wp_seq ?_
  refine c_region ?_
  refine l_pure S (p_assign rfl) rfl rfl rfl ?_; clear S a; intro a S
  refine l_nil ?_
  refine e_then ?_
  refine wp_seq ?_
  refine wp_seq ?_
  refine c_region ?_
  refine l_pure S (p_move rfl) rfl rfl rfl ?_; clear S a; intro a S
  refine l_pure S (p_nilnil bu.mi49 rfl) rfl rfl rfl ?_; clear S a; intro a S
  refine l_nil ?_
  refine e_then ?_
  refine c_cond (b := true) S rfl (fun _ => ?_) (fun h => by cases h)
  refine wp_seq ?_
  refine c_region ?_
  refine l_pure S (p_assign rfl) rfl rfl rfl ?_; clear S a; intro a S
  refine l_nil ?_
  refine e_then ?_
  refine wp_ret ?_
  refine e_then_ret ?_
  exact r_ret1 S rfl rfl ⟨rfl, H⟩
theorem state_es (wb w0 : World) (B : Nat) (L0 : dc.Bk) (q : Addr) (H : HH B wb w0 L0) : Calls Tryd.prog 21 #[.iface 143 (.pointer (some q))] w0 fun e w' => e = .returned (.int .i64 2) ∧ HH B wb w' L0 := by
  refine c_enter (args := [.iface 143 (.pointer (some q))]) (k := 22) Tryd.func21 rfl rfl rfl (fun a S => ?_)
  refine wp_seq ?_
  refine c_region ?_
  refine l_pure S (p_assign rfl) rfl rfl rfl ?_; clear S a; intro a S
  refine l_nil ?_
  refine e_then ?_
  refine wp_seq ?_
  refine wp_seq ?_
  refine c_region ?_
  refine l_pure S (p_move rfl) rfl rfl rfl ?_; clear S a; intro a S
  refine l_pure S (p_ifnil bu.mi49 rfl rfl) rfl rfl rfl ?_; clear S a; intro a S
  refine l_nil ?_
  refine e_then ?_
  refine c_cond (b := false) S rfl (fun h => by cases h) (fun _ => ?_)
  refine wp_skip ?_
  refine e_then ?_
  refine wp_seq ?_
  refine c_region ?_
  refine l_pure S (p_move rfl) rfl rfl rfl ?_; clear S a; intro a S
  refine l_pure S (p_ta rfl (fun w => taE w _)) rfl rfl rfl ?_; clear S a; intro a S
  refine l_pure S (p_move rfl) rfl rfl rfl ?_; clear S a; intro a S
  refine l_pure S (p_extract rfl rfl) rfl rfl rfl ?_; clear S a; intro a S
  refine l_pure S (p_extract rfl rfl) rfl rfl rfl ?_; clear S a; intro a S
  refine l_alloc (cs := _) S H rfl (fun w => al zv88) rfl rfl rfl ?_; clear S a H; intro g4 w a H S
  refine l_storeAll (vs := [.nilIface]) S H rfl rfl rfl sz88 .here rfl (fun v hv => by simp only [List.mem_cons, List.not_mem_nil, or_false] at hv; rcases hv with rfl; rfl) rfl rfl ?_; clear S a H; intro w a H S
  refine l_pure S (p_assign rfl) rfl rfl rfl ?_; clear S a; intro a S
  refine l_nil ?_
  refine e_then ?_
  refine wp_seq ?_
  refine wp_seq ?_
  refine c_region ?_
  refine l_pure S (p_move rfl) rfl rfl rfl ?_; clear S a; intro a S
  refine l_pure S (p_not rfl) rfl rfl rfl ?_; clear S a; intro a S
  refine l_nil ?_
  refine e_then ?_
  refine c_cond (b := true) S rfl (fun _ => ?_) (fun h => by cases h)
  refine wp_seq ?_
  refine c_region ?_
  refine l_pure S (p_assign rfl) rfl rfl rfl ?_; clear S a; intro a S
  refine l_nil ?_
  refine e_then ?_
  refine wp_ret ?_
  refine e_then_ret ?_
  exact r_ret1 S rfl rfl ⟨rfl, H.tail⟩
theorem state_any (wb w0 : World) (B : Nat) (L0 : dc.Bk) (er : Value) (x : Int) (h : (er = .nilIface ∧ x = 0) ∨ (∃ q, er = .iface 143 (.pointer (some q)) ∧ x = 2)) (H : HH B wb w0 L0) : Calls Tryd.prog 21 #[er] w0 fun e w' => e = .returned (.int .i64 x) ∧ HH B wb w' L0 := by
  rcases h with ⟨rfl, rfl⟩ | ⟨q, rfl, rfl⟩
  · exact state_nil wb w0 B L0 H
  · exact state_es wb w0 B L0 q H
theorem zz_nil (wb w0 : World) (B : Nat) (L0 : dc.Bk) (q : Addr) (H : HH B wb w0 L0) : Calls Tryd.prog 37 #[.nilIface, .iface 143 (.pointer (some q))] w0 fun e w' => e = .returned (.bool false) ∧ HH B wb w' L0 := by
  refine c_enter (args := [.nilIface, .iface 143 (.pointer (some q))]) (k := 19) Tryd.func37 rfl rfl rfl (fun a S => ?_)
  refine wp_seq ?_
  refine c_region ?_
  refine l_pure S (p_assign rfl) rfl rfl rfl ?_; clear S a; intro a S
  refine l_nil ?_
  refine e_then ?_
  refine wp_seq ?_
  refine wp_block ?_
  refine c_loop (σ := Unit) (fun s_ a w => match s_ with | _ => SL a 21 [] [(0, .nilIface), (1, .iface 143 (.pointer (some q))), (4, .bool false)] ∧ HH (B) wb w L0 ∧ (True)) (fun s_ => match s_ with | _ => 0) () ⟨S.only ⟨rfl, rfl, rfl, trivial⟩, H, trivial⟩ ?_
  clear S a H; rintro _ a w ⟨S, H, hinv⟩
  refine wp_seq ?_
  refine wp_seq ?_
  refine c_region ?_
  refine l_pure S (p_move rfl) rfl rfl rfl ?_; clear S a; intro a S
  refine l_pure S (p_nilnilN bu.mi49 rfl) rfl rfl rfl ?_; clear S a; intro a S
  refine l_nil ?_
  refine e_then ?_
  refine c_cond (b := false) S rfl (fun h => by cases h) (fun _ => ?_)
  refine wp_exit ?_
  refine e_then_exit ?_
  refine e_then_exit ?_
  refine e_in_exit ?_
  refine e_then ?_
  refine wp_seq ?_
  refine c_region ?_
  refine l_pure S (p_assign rfl) rfl rfl rfl ?_; clear S a; intro a S
  refine l_nil ?_
  refine e_then ?_
  refine wp_ret ?_
  exact r_ret1 S rfl rfl ⟨rfl, H⟩
theorem zz_same (wb w0 : World) (B : Nat) (L0 : dc.Bk) (q : Addr) (H : HH B wb w0 L0) : Calls Tryd.prog 37 #[.iface 143 (.pointer (some q)), .iface 143 (.pointer (some q))] w0 fun e w' => e = .returned (.bool true) ∧ HH B wb w' L0 := by
  refine c_enter (args := [.iface 143 (.pointer (some q)), .iface 143 (.pointer (some q))]) (k := 19) Tryd.func37 rfl rfl rfl (fun a S => ?_)
  refine wp_seq ?_
  refine c_region ?_
  refine l_pure S (p_assign rfl) rfl rfl rfl ?_; clear S a; intro a S
  refine l_nil ?_
  refine e_then ?_
  refine wp_seq ?_
  refine wp_block ?_
  refine c_loop (σ := Unit) (fun s_ a w => match s_ with | _ => SL a 21 [] [(0, .iface 143 (.pointer (some q))), (1, .iface 143 (.pointer (some q))), (4, .bool false)] ∧ HH (B) wb w L0 ∧ (True)) (fun s_ => match s_ with | _ => 0) () ⟨S.only ⟨rfl, rfl, rfl, trivial⟩, H, trivial⟩ ?_
  clear S a H; rintro _ a w ⟨S, H, hinv⟩
  refine wp_seq ?_
  refine wp_seq ?_
  refine c_region ?_
  refine l_pure S (p_move rfl) rfl rfl rfl ?_; clear S a; intro a S
  refine l_pure S (p_ifnilN bu.mi49 rfl rfl) rfl rfl rfl ?_; clear S a; intro a S
  refine l_nil ?_
  refine e_then ?_
  refine c_cond (b := true) S rfl (fun _ => ?_) (fun h => by cases h)
  refine wp_skip ?_
  refine e_then ?_
  refine wp_block ?_
  refine wp_seq ?_
  refine wp_seq ?_
  refine c_region ?_
  refine l_pure S (p_move rfl) rfl rfl rfl ?_; clear S a; intro a S
  refine l_pure S (p_move rfl) rfl rfl rfl ?_; clear S a; intro a S
  refine l_pure S (p_ifsameE bu.mi49 cmpE Tryd.underlying143 (by kernel_rfl) rfl rfl) rfl rfl rfl ?_; clear S a; intro a S
  refine l_nil ?_
  refine e_then ?_
  refine c_cond (b := true) S rfl (fun _ => ?_) (fun h => by cases h)
  refine wp_seq ?_
  refine c_region ?_
  refine l_pure S (p_assign rfl) rfl rfl rfl ?_; clear S a; intro a S
  refine l_nil ?_
  refine e_then ?_
  refine wp_ret ?_
  refine e_then_ret ?_
  refine e_in_ret ?_
  refine e_then_ret ?_
  refine e_in_ret ?_
  refine e_then_ret ?_
  exact r_ret1 S rfl rfl ⟨rfl, H⟩
end pc
end Go.Proofs.YtnmelglnkefjfaaDoor.sk
