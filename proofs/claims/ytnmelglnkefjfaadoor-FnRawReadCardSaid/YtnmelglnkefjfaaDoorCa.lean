/- FnSkipMore: the law, walked. -/
import Derived.Test.YtnmelglnkefjfaaDoorBz
namespace Go.Proofs.YtnmelglnkefjfaaDoor.sk
open Go.RowKit Go.Proofs.HHW Go.Proofs.YtnmelglnkefjfaaDoorW.PrintWords
set_option linter.unusedVariables false
set_option linter.unusedSimpArgs false
namespace la
theorem ag3 : aggB Tryd.prog 3 = some false := by kernel_rfl
theorem ag46 : aggB Tryd.prog 46 = some true := by kernel_rfl
theorem sz3 : szB Tryd.prog 3 = some 1 := by kernel_rfl
theorem sz46 : szB Tryd.prog 46 = some 2 := by kernel_rfl
theorem zv3 : zvB Tryd.prog 3 = some (.int .i64 0) := by kernel_rfl
theorem zv46 : zvB Tryd.prog 46 = some (.agg #[.pointer none, .nilIface]) := by kernel_rfl
theorem zv55 : zvB Tryd.prog 55 = some (.slice none 0 0) := by kernel_rfl
theorem idle16 (p0 : Addr) (p1 : Addr) (w : World) :
    CallsD Tryd.prog 16 #[.pointer (some p0), .pointer (some p1)] .returning w fun e u' w' => e = .returned (.tuple #[]) ∧ u' = .returning ∧ w' = w := by
  refine callsD_of_wpS Tryd.func16 rfl fun c₀ cs hu => ?_
  apply wpS_seq
  apply wpS_region
  simp [wpOpsS, go_sem, recoverD, hu, Tryd.ntmps16, Exit.thenS]
  refine wpS_cond (t := false) (by simp [Act.eval, Array.replicate]) ?_
  simp only [Bool.false_eq_true, if_false]
  refine wpS_of_wp (wp_skip ?_)
  cases c₀
  simp_all [bodyPostS, results, Tryd.results16]
theorem asked_ (wb w0 : World) (B : Nat) (L0 : dc.Bk) (s : ByteArray) (Az : Option Addr) (zs : List Int) (cz : Nat) (H : HH B wb w0 L0) : Calls Tryd.prog 6 #[.string s, .slice Az zs.length cz] w0 fun e w' => ∃ b, e = .returned (.bool b) ∧ (b = true → s.size ≤ 2000 ∧ zs.length ≤ 50) ∧ HH B wb w' L0 := by
  refine c_enter (args := [.string s, .slice Az zs.length cz]) (k := 11) Tryd.func6 rfl rfl rfl (fun a S => ?_)
  refine wp_seq ?_
  refine c_region ?_
  refine l_pure S (p_assign rfl) rfl rfl rfl ?_; clear S a; intro a S
  refine l_nil ?_
  refine e_then ?_
  refine wp_seq ?_
  refine c_region ?_
  refine l_pure S (p_move rfl) rfl rfl rfl ?_; clear S a; intro a S
  refine l_pure S (p_lens Tryd.underlying9 rfl) rfl rfl rfl ?_; clear S a; intro a S
  refine l_pure S (p_leq rfl rfl) rfl rfl rfl ?_; clear S a; intro a S
  refine l_pure S (p_move rfl) rfl rfl rfl ?_; clear S a; intro a S
  refine l_split (S.of 8 rfl) (fun bc3 => ?_) (fun bc3 => ?_)
  · skip
    have c3 := bc3
    have c3 := of_decide_eq_true c3
    refine l_on S rfl rfl rfl rfl bc3 ?_
    refine l_pure S (p_move rfl) rfl rfl rfl ?_; clear S a; intro a S
    refine l_on S rfl rfl rfl rfl bc3 ?_
    refine l_pure S (p_len Tryd.underlying22 rfl) rfl rfl rfl ?_; clear S a; intro a S
    refine l_on S rfl rfl rfl rfl bc3 ?_
    refine l_pure S (p_leq rfl rfl) rfl rfl rfl ?_; clear S a; intro a S
    refine l_pure S (p_pick_t rfl bc3 rfl) rfl rfl rfl ?_; clear S a; intro a S
    refine l_pure S (p_assign rfl) rfl rfl rfl ?_; clear S a; intro a S
    refine l_nil ?_
    refine e_then ?_
    refine wp_ret ?_
    first | exact r_ret1 S rfl rfl ⟨_, rfl, (fun h => by have := of_decide_eq_true h; exact ⟨by omega, by omega⟩), H⟩ | exact r_ret1 S rfl rfl ⟨_, rfl, (fun h => by cases h), H⟩
  · skip
    have c3 := bc3
    have c3 := of_decide_eq_false c3
    refine l_off S rfl rfl rfl rfl bc3 rfl rfl ?_; clear S a; intro a S
    refine l_off S rfl rfl rfl rfl bc3 rfl rfl ?_; clear S a; intro a S
    refine l_off S rfl rfl rfl rfl bc3 rfl rfl ?_; clear S a; intro a S
    refine l_pure S (p_pick_f rfl bc3 rfl) rfl rfl rfl ?_; clear S a; intro a S
    refine l_pure S (p_assign rfl) rfl rfl rfl ?_; clear S a; intro a S
    refine l_nil ?_
    refine e_then ?_
    refine wp_ret ?_
    first | exact r_ret1 S rfl rfl ⟨_, rfl, (fun h => by have := of_decide_eq_true h; exact ⟨by omega, by omega⟩), H⟩ | exact r_ret1 S rfl rfl ⟨_, rfl, (fun h => by cases h), H⟩
theorem impl_false (w0 : World) (s : ByteArray) (n : Nat) (Az : Option Addr) (zs : List Int) (cz : Nat) (hC : (Kd.int .i64).C w0 Az zs.length zs) (hzc : zs.length ≤ cz) (hz : zs.length ≤ 50) (hs : s.size ≤ 1000000) (hn : n ≤ 5000) (ae : Addr) (hE : w0.cell? ⟨0, 0, none⟩ = some (.iface 143 (.pointer (some ae)))) (hlt : 0 < w0.heap.size) (qe : Addr) (hU : w0.cell? ⟨1, 0, none⟩ = some (.iface 143 (.pointer (some qe)))) (hltU : 1 < w0.heap.size) : Calls Tryd.prog 7 #[.string s, .int .i64 (n : Int), .slice Az zs.length cz, .bool false] w0 fun e w' => ∃ (lf : Nat) (x : Int), e = .returned (.tuple #[.int .i64 (lf : Int), .int .i64 x]) ∧ ((n ≤ s.size ∧ x = 0 ∧ lf + n = s.size) ∨ (s.size < n ∧ x = 2)) ∧ Below w0.heap.size w0 w' := by
  have H := HH.start w0
  refine c_enter_d (args := [.string s, .int .i64 (n : Int), .slice Az zs.length cz, .bool false]) (k := 22) Tryd.func7 rfl rfl rfl (fun a S => ?_)
  refine wp_seq ?_
  refine c_region ?_
  refine l_alloc (cs := _) S H rfl (fun w => al zv3) rfl rfl rfl ?_; clear S a H; intro g1 w a H S
  refine l_alloc (cs := _) S H rfl (fun w => al zv3) rfl rfl rfl ?_; clear S a H; intro g2 w a H S
  refine l_nil ?_
  refine e_then ?_
  refine wp_seq ?_
  refine c_region ?_
  refine l_pure S (p_func rfl rfl) rfl rfl rfl ?_; clear S a; intro a S
  refine l_defer (xs := []) (us := []) (vs := []) S rfl rfl rfl rfl rfl ?_; clear S a; intro a S
  refine l_nil ?_
  refine e_then ?_
  refine wp_seq ?_
  refine c_region ?_
  refine l_pure S (p_move rfl) rfl rfl rfl ?_; clear S a; intro a S
  refine l_pure S (p_move rfl) rfl rfl rfl ?_; clear S a; intro a S
  have hcon := pc.pieces_ w0 _ _ s Az zs cz H hC hzc hz hs
  refine l_call S rfl rfl Tryd.func17 rfl rfl (hcon) rfl rfl rfl ?_
  rintro e w ⟨g, gb, gr, cs, A', zs', c', rfl, hcs, hpos, hz', hC', hH⟩
  refine ⟨_, rfl, ?_⟩; clear S a; intro a S
  clear H hcon; have H := hH; clear hH
  refine l_alloc (cs := _) S H rfl (fun w => al zv46) rfl rfl rfl ?_; clear S a H; intro gp w a H S
  refine l_storeAll (vs := [.pointer (some ⟨gr, 0, none⟩), .iface 102 (.pointer (some ⟨g, 0, none⟩))]) S H rfl rfl rfl sz46 .here rfl (fun v hv => by simp only [List.mem_cons, List.not_mem_nil, or_false] at hv; rcases hv with rfl | rfl <;> rfl) rfl rfl ?_; clear S a H; intro w a H S
  refine l_nil ?_
  refine e_then ?_
  refine wp_seq ?_
  refine c_region ?_
  refine l_read S H (r_loadn (m := 2) (vs := [.pointer (some ⟨gr, 0, none⟩), .iface 102 (.pointer (some ⟨g, 0, none⟩))]) rfl List.mem_cons_self ag46 sz46 rfl rfl) rfl rfl rfl ?_; clear S a; intro a S
  refine l_pure S (p_move rfl) rfl rfl rfl ?_; clear S a; intro a S
  refine l_call S rfl rfl Tryd.func19 rfl rfl (pc.source_false w0 _ _ _ g gr H) rfl rfl rfl ?_
  rintro e w ⟨rfl, hH⟩
  refine ⟨_, rfl, ?_⟩; clear S a; intro a S
  clear H; have H := hH; clear hH
  refine l_pure S (p_move rfl) rfl rfl rfl ?_; clear S a; intro a S
  refine l_alloc (cs := _) S H rfl (fun w => al zv55) rfl rfl rfl ?_; clear S a H; intro gs w a H S
  have H2 : HH w0.heap.size w0 w ((g, _) :: (gb, _) :: (gr, _) :: (gs, _) :: (gp, _) :: _) := H.perm (List.perm_append_comm_assoc [_, _] [_, _, _] _)
  have hcon := nd.nd_b w0 _ _ g gb gr cs 0 [] s A' zs' c' 0 (-1) (-1) n s.size gs ae hE hlt H2 hcs (fun i v h => by simp at h) (by simp) hC' hpos (by omega) hs (by omega) (by omega) (by simp)
  refine l_call S rfl rfl Tryd.func18 rfl rfl (hcon) rfl rfl rfl ?_
  rintro e w ⟨r', vis', s', cs', ap', er, lb', lr', rfl, hw', hs', hH, hcase⟩
  refine ⟨_, rfl, ?_⟩; clear S a; intro a S
  clear H H2 hcon; have H := hH; clear hH
  refine l_pure S (p_assign rfl) rfl rfl rfl ?_; clear S a; intro a S
  refine l_nil ?_
  refine e_then ?_
  refine wp_seq ?_
  refine c_region ?_
  refine l_read S H (r_loadn (m := 2) (vs := [.pointer (some ⟨gr, 0, none⟩), .iface 102 (.pointer (some ⟨g, 0, none⟩))]) rfl (List.mem_cons_of_mem _ (List.mem_cons_of_mem _ (List.mem_cons_of_mem _ List.mem_cons_self))) ag46 sz46 rfl rfl) rfl rfl rfl ?_; clear S a; intro a S
  have hcon := pc.left_ w0 _ _ _ g gb gr cs' r' vis' s' A' zs' c' ap' lb' lr' H hw' hs'
  refine l_call S rfl rfl Tryd.func20 rfl rfl (hcon) rfl rfl rfl ?_
  rintro e w ⟨rfl, hH⟩
  refine ⟨_, rfl, ?_⟩; clear S a; intro a S
  clear H hcon; have H := hH; clear hH
  refine l_pure S (p_move rfl) rfl rfl rfl ?_; clear S a; intro a S
  obtain ⟨x, hx, hcase2⟩ : ∃ x : Int, ((er = .nilIface ∧ x = 0) ∨ (∃ q, er = .iface 143 (.pointer (some q)) ∧ x = 2)) ∧ ((n ≤ s.size ∧ x = 0 ∧ vis'.length + s'.size + n = s.size) ∨ (s.size < n ∧ x = 2)) := by
    rcases hcase with ⟨h1, h2, h3⟩ | ⟨h1, q, h2⟩
    · exact ⟨0, .inl ⟨h2, rfl⟩, .inl ⟨h1, rfl, h3⟩⟩
    · exact ⟨2, .inr ⟨q, h2, rfl⟩, .inr ⟨h1, rfl⟩⟩
  refine l_call S rfl rfl Tryd.func21 rfl rfl (pc.state_any w0 _ _ _ er x hx H) rfl rfl rfl ?_
  rintro e w ⟨rfl, hH⟩
  refine ⟨_, rfl, ?_⟩; clear S a; intro a S
  clear H; have H := hH; clear hH
  refine l_store S H rfl rfl rfl (.there (.there (.there (.there (.there .here))))) (by first | decide | simp [Value.cells]) (fun w u hc hz => st1 sz3 rfl hc hz) rfl rfl ?_; clear S a H; intro w a H S
  refine l_store S H rfl rfl rfl (.there (.there (.there (.there .here)))) (by first | decide | simp [Value.cells]) (fun w u hc hz => st1 sz3 rfl hc hz) rfl rfl ?_; clear S a H; intro w a H S
  refine l_nil ?_
  refine e_then ?_
  refine wp_ret ?_
  exact r_door (v := .tuple #[.int .i64 ((vis'.length + s'.size : Nat) : Int), .int .i64 x]) S (idle16 _ _) (invokes Tryd.func16 rfl rfl) (res_c2 rfl rfl rfl (lv ag3 H (List.mem_cons_of_mem _ (List.mem_cons_of_mem _ (List.mem_cons_of_mem _ (List.mem_cons_of_mem _ (List.mem_cons_of_mem _ List.mem_cons_self))))) rfl) (lv ag3 H (List.mem_cons_of_mem _ (List.mem_cons_of_mem _ (List.mem_cons_of_mem _ (List.mem_cons_of_mem _ List.mem_cons_self)))) rfl)) ⟨_, x, rfl, hcase2, H.below⟩
theorem impl_true (w0 : World) (s : ByteArray) (n : Nat) (Az : Option Addr) (zs : List Int) (cz : Nat) (hC : (Kd.int .i64).C w0 Az zs.length zs) (hzc : zs.length ≤ cz) (hz : zs.length ≤ 50) (hs : s.size ≤ 1000000) (hn : n ≤ 5000) (ae : Addr) (hE : w0.cell? ⟨0, 0, none⟩ = some (.iface 143 (.pointer (some ae)))) (hlt : 0 < w0.heap.size) (qe : Addr) (hU : w0.cell? ⟨1, 0, none⟩ = some (.iface 143 (.pointer (some qe)))) (hltU : 1 < w0.heap.size) : Calls Tryd.prog 7 #[.string s, .int .i64 (n : Int), .slice Az zs.length cz, .bool true] w0 fun e w' => ∃ (lf : Nat) (x : Int), e = .returned (.tuple #[.int .i64 (lf : Int), .int .i64 x]) ∧ ((n ≤ s.size ∧ x = 0 ∧ lf + n = s.size) ∨ (s.size < n ∧ x = 2)) ∧ Below w0.heap.size w0 w' := by
  have H := HH.start w0
  refine c_enter_d (args := [.string s, .int .i64 (n : Int), .slice Az zs.length cz, .bool true]) (k := 22) Tryd.func7 rfl rfl rfl (fun a S => ?_)
  refine wp_seq ?_
  refine c_region ?_
  refine l_alloc (cs := _) S H rfl (fun w => al zv3) rfl rfl rfl ?_; clear S a H; intro g1 w a H S
  refine l_alloc (cs := _) S H rfl (fun w => al zv3) rfl rfl rfl ?_; clear S a H; intro g2 w a H S
  refine l_nil ?_
  refine e_then ?_
  refine wp_seq ?_
  refine c_region ?_
  refine l_pure S (p_func rfl rfl) rfl rfl rfl ?_; clear S a; intro a S
  refine l_defer (xs := []) (us := []) (vs := []) S rfl rfl rfl rfl rfl ?_; clear S a; intro a S
  refine l_nil ?_
  refine e_then ?_
  refine wp_seq ?_
  refine c_region ?_
  refine l_pure S (p_move rfl) rfl rfl rfl ?_; clear S a; intro a S
  refine l_pure S (p_move rfl) rfl rfl rfl ?_; clear S a; intro a S
  have hcon := pc.pieces_ w0 _ _ s Az zs cz H hC hzc hz hs
  refine l_call S rfl rfl Tryd.func17 rfl rfl (hcon) rfl rfl rfl ?_
  rintro e w ⟨g, gb, gr, cs, A', zs', c', rfl, hcs, hpos, hz', hC', hH⟩
  refine ⟨_, rfl, ?_⟩; clear S a; intro a S
  clear H hcon; have H := hH; clear hH
  refine l_alloc (cs := _) S H rfl (fun w => al zv46) rfl rfl rfl ?_; clear S a H; intro gp w a H S
  refine l_storeAll (vs := [.pointer (some ⟨gr, 0, none⟩), .iface 102 (.pointer (some ⟨g, 0, none⟩))]) S H rfl rfl rfl sz46 .here rfl (fun v hv => by simp only [List.mem_cons, List.not_mem_nil, or_false] at hv; rcases hv with rfl | rfl <;> rfl) rfl rfl ?_; clear S a H; intro w a H S
  refine l_nil ?_
  refine e_then ?_
  refine wp_seq ?_
  refine c_region ?_
  refine l_read S H (r_loadn (m := 2) (vs := [.pointer (some ⟨gr, 0, none⟩), .iface 102 (.pointer (some ⟨g, 0, none⟩))]) rfl List.mem_cons_self ag46 sz46 rfl rfl) rfl rfl rfl ?_; clear S a; intro a S
  refine l_pure S (p_move rfl) rfl rfl rfl ?_; clear S a; intro a S
  refine l_call S rfl rfl Tryd.func19 rfl rfl (pc.source_true w0 _ _ _ g gr H) rfl rfl rfl ?_
  rintro e w ⟨rfl, hH⟩
  refine ⟨_, rfl, ?_⟩; clear S a; intro a S
  clear H; have H := hH; clear hH
  refine l_pure S (p_move rfl) rfl rfl rfl ?_; clear S a; intro a S
  refine l_alloc (cs := _) S H rfl (fun w => al zv55) rfl rfl rfl ?_; clear S a H; intro gs w a H S
  have H2 : HH w0.heap.size w0 w ((g, _) :: (gb, _) :: (gr, _) :: (gs, _) :: (gp, _) :: _) := H.perm (List.perm_append_comm_assoc [_, _] [_, _, _] _)
  have hcon := nd.nd_p w0 _ _ g gb gr cs 0 [] s A' zs' c' 0 (-1) (-1) n s.size gs ae hE hlt qe hU hltU H2 hcs (fun i v h => by simp at h) (by simp) hC' hpos (by omega) hs (by omega) rfl (by rcases hpos with rfl | hpos; exact ⟨s.size, .inl ⟨rfl, Nat.le_refl _⟩, by omega⟩; exact dc.start_ hpos hs (by omega)) (by simp)
  refine l_call S rfl rfl Tryd.func18 rfl rfl (hcon) rfl rfl rfl ?_
  rintro e w ⟨r', vis', s', cs', ap', er, lb', lr', rfl, hw', hs', hH, hcase⟩
  refine ⟨_, rfl, ?_⟩; clear S a; intro a S
  clear H H2 hcon; have H := hH; clear hH
  refine l_pure S (p_assign rfl) rfl rfl rfl ?_; clear S a; intro a S
  refine l_nil ?_
  refine e_then ?_
  refine wp_seq ?_
  refine c_region ?_
  refine l_read S H (r_loadn (m := 2) (vs := [.pointer (some ⟨gr, 0, none⟩), .iface 102 (.pointer (some ⟨g, 0, none⟩))]) rfl (List.mem_cons_of_mem _ (List.mem_cons_of_mem _ (List.mem_cons_of_mem _ List.mem_cons_self))) ag46 sz46 rfl rfl) rfl rfl rfl ?_; clear S a; intro a S
  have hcon := pc.left_ w0 _ _ _ g gb gr cs' r' vis' s' A' zs' c' ap' lb' lr' H hw' hs'
  refine l_call S rfl rfl Tryd.func20 rfl rfl (hcon) rfl rfl rfl ?_
  rintro e w ⟨rfl, hH⟩
  refine ⟨_, rfl, ?_⟩; clear S a; intro a S
  clear H hcon; have H := hH; clear hH
  refine l_pure S (p_move rfl) rfl rfl rfl ?_; clear S a; intro a S
  obtain ⟨x, hx, hcase2⟩ : ∃ x : Int, ((er = .nilIface ∧ x = 0) ∨ (∃ q, er = .iface 143 (.pointer (some q)) ∧ x = 2)) ∧ ((n ≤ s.size ∧ x = 0 ∧ vis'.length + s'.size + n = s.size) ∨ (s.size < n ∧ x = 2)) := by
    rcases hcase with ⟨h1, h2, h3⟩ | ⟨h1, q, h2⟩
    · exact ⟨0, .inl ⟨h2, rfl⟩, .inl ⟨h1, rfl, h3⟩⟩
    · exact ⟨2, .inr ⟨q, h2, rfl⟩, .inr ⟨h1, rfl⟩⟩
  refine l_call S rfl rfl Tryd.func21 rfl rfl (pc.state_any w0 _ _ _ er x hx H) rfl rfl rfl ?_
  rintro e w ⟨rfl, hH⟩
  refine ⟨_, rfl, ?_⟩; clear S a; intro a S
  clear H; have H := hH; clear hH
  refine l_store S H rfl rfl rfl (.there (.there (.there (.there (.there .here))))) (by first | decide | simp [Value.cells]) (fun w u hc hz => st1 sz3 rfl hc hz) rfl rfl ?_; clear S a H; intro w a H S
  refine l_store S H rfl rfl rfl (.there (.there (.there (.there .here)))) (by first | decide | simp [Value.cells]) (fun w u hc hz => st1 sz3 rfl hc hz) rfl rfl ?_; clear S a H; intro w a H S
  refine l_nil ?_
  refine e_then ?_
  refine wp_ret ?_
  exact r_door (v := .tuple #[.int .i64 ((vis'.length + s'.size : Nat) : Int), .int .i64 x]) S (idle16 _ _) (invokes Tryd.func16 rfl rfl) (res_c2 rfl rfl rfl (lv ag3 H (List.mem_cons_of_mem _ (List.mem_cons_of_mem _ (List.mem_cons_of_mem _ (List.mem_cons_of_mem _ (List.mem_cons_of_mem _ List.mem_cons_self))))) rfl) (lv ag3 H (List.mem_cons_of_mem _ (List.mem_cons_of_mem _ (List.mem_cons_of_mem _ (List.mem_cons_of_mem _ List.mem_cons_self)))) rfl)) ⟨_, x, rfl, hcase2, H.below⟩
theorem impl_ (w0 : World) (s : ByteArray) (n : Nat) (Az : Option Addr) (zs : List Int) (cz : Nat) (pl : Bool) (hC : (Kd.int .i64).C w0 Az zs.length zs) (hzc : zs.length ≤ cz) (hz : zs.length ≤ 50) (hs : s.size ≤ 1000000) (hn : n ≤ 5000) (ae : Addr) (hE : w0.cell? ⟨0, 0, none⟩ = some (.iface 143 (.pointer (some ae)))) (hlt : 0 < w0.heap.size) (qe : Addr) (hU : w0.cell? ⟨1, 0, none⟩ = some (.iface 143 (.pointer (some qe)))) (hltU : 1 < w0.heap.size) : Calls Tryd.prog 7 #[.string s, .int .i64 (n : Int), .slice Az zs.length cz, .bool pl] w0 fun e w' => ∃ (lf : Nat) (x : Int), e = .returned (.tuple #[.int .i64 (lf : Int), .int .i64 x]) ∧ ((n ≤ s.size ∧ x = 0 ∧ lf + n = s.size) ∨ (s.size < n ∧ x = 2)) ∧ Below w0.heap.size w0 w' := by
  cases pl
  · exact impl_false w0 s n Az zs cz hC hzc hz hs hn ae hE hlt qe hU hltU
  · exact impl_true w0 s n Az zs cz hC hzc hz hs hn ae hE hlt qe hU hltU
theorem law_calls (w0 : World) (s : ByteArray) (n : Int) (Az : Option Addr) (zs : List Int) (cz : Nat) (pl : Bool) (hC : (Kd.int .i64).C w0 Az zs.length zs) (hzc : zs.length ≤ cz) (ae : Addr) (hE : w0.cell? ⟨0, 0, none⟩ = some (.iface 143 (.pointer (some ae)))) (hlt : 0 < w0.heap.size) (qe : Addr) (hU : w0.cell? ⟨1, 0, none⟩ = some (.iface 143 (.pointer (some qe)))) (hltU : 1 < w0.heap.size) : Calls Tryd.prog 3 #[.string s, .int .i64 n, .slice Az zs.length cz, .bool pl] w0 fun e w' => e = .returned (.bool true) ∧ Below w0.heap.size w0 w' := by
  have H := HH.start w0
  refine c_enter (args := [.string s, .int .i64 n, .slice Az zs.length cz, .bool pl]) (k := 74) Tryd.func3 rfl rfl rfl (fun a S => ?_)
  refine wp_seq ?_
  refine c_region ?_
  refine l_pure S (p_assign rfl) rfl rfl rfl ?_; clear S a; intro a S
  refine l_nil ?_
  refine e_then ?_
  refine wp_seq ?_
  refine wp_seq ?_
  refine c_region ?_
  refine l_pure S (p_move rfl) rfl rfl rfl ?_; clear S a; intro a S
  refine l_pure S (p_lens Tryd.underlying9 rfl) rfl rfl rfl ?_; clear S a; intro a S
  refine l_pure S (p_gtr rfl rfl) rfl rfl rfl ?_; clear S a; intro a S
  refine l_pure S (p_move rfl) rfl rfl rfl ?_; clear S a; intro a S
  refine l_split (S.of 16 rfl) (fun bc3 => ?_) (fun bc3 => ?_)
  · skip
    have c3 := bc3
    have c3 := of_decide_eq_true c3
    refine l_off S rfl rfl rfl rfl bc3 rfl rfl ?_; clear S a; intro a S
    refine l_off S rfl rfl rfl rfl bc3 rfl rfl ?_; clear S a; intro a S
    refine l_off S rfl rfl rfl rfl bc3 rfl rfl ?_; clear S a; intro a S
    refine l_pure S (p_pick_t rfl bc3 rfl) rfl rfl rfl ?_; clear S a; intro a S
    refine l_nil ?_
    refine e_then ?_
    refine c_cond (b := true) S rfl (fun _ => ?_) (fun h => by cases h)
    refine wp_seq ?_
    refine c_region ?_
    refine l_pure S (p_assign rfl) rfl rfl rfl ?_; clear S a; intro a S
    refine l_nil ?_
    refine e_then ?_
    refine wp_ret ?_
    refine e_then_ret ?_
    first | exact r_ret1 S rfl rfl ⟨rfl, H.below⟩ | exact r_ret1 S rfl rfl ⟨by rw [show ((lf : Int) == ((s.size - m : Nat) : Int)) = true from beq_iff_eq.2 (by omega)], H.below⟩ | exact r_ret1 S rfl rfl ⟨by rw [show ((lf : Int) == (s.size : Int) - (m : Int)) = true from beq_iff_eq.2 (by omega)], H.below⟩
  · skip
    have c3 := bc3
    have c3 := of_decide_eq_false c3
    refine l_on S rfl rfl rfl rfl bc3 ?_
    refine l_pure S (p_move rfl) rfl rfl rfl ?_; clear S a; intro a S
    refine l_on S rfl rfl rfl rfl bc3 ?_
    refine l_pure S (p_len Tryd.underlying22 rfl) rfl rfl rfl ?_; clear S a; intro a S
    refine l_on S rfl rfl rfl rfl bc3 ?_
    refine l_pure S (p_gtr rfl rfl) rfl rfl rfl ?_; clear S a; intro a S
    refine l_pure S (p_pick_f rfl bc3 rfl) rfl rfl rfl ?_; clear S a; intro a S
    refine l_nil ?_
    refine e_then ?_
    refine c_cond S rfl (fun c8 => ?_) (fun c8 => ?_)
    · skip
      have c8 := of_decide_eq_true c8
      refine wp_seq ?_
      refine c_region ?_
      refine l_pure S (p_assign rfl) rfl rfl rfl ?_; clear S a; intro a S
      refine l_nil ?_
      refine e_then ?_
      refine wp_ret ?_
      refine e_then_ret ?_
      first | exact r_ret1 S rfl rfl ⟨rfl, H.below⟩ | exact r_ret1 S rfl rfl ⟨by rw [show ((lf : Int) == ((s.size - m : Nat) : Int)) = true from beq_iff_eq.2 (by omega)], H.below⟩ | exact r_ret1 S rfl rfl ⟨by rw [show ((lf : Int) == (s.size : Int) - (m : Int)) = true from beq_iff_eq.2 (by omega)], H.below⟩
    · skip
      have c8 := of_decide_eq_false c8
      refine wp_skip ?_
      refine e_then ?_
      refine wp_seq ?_
      refine wp_seq ?_
      refine c_region ?_
      refine l_pure S (p_move rfl) rfl rfl rfl ?_; clear S a; intro a S
      refine l_pure S (p_move rfl) rfl rfl rfl ?_; clear S a; intro a S
      refine l_call S rfl rfl Tryd.func6 rfl rfl (asked_ w0 _ _ _ s Az zs cz H) rfl rfl rfl ?_
      rintro e w ⟨ok, rfl, hok, hH⟩
      refine ⟨_, rfl, ?_⟩; clear S a; intro a S
      clear H; have H := hH; clear hH
      refine l_pure S (p_not rfl) rfl rfl rfl ?_; clear S a; intro a S
      refine l_pure S (p_move rfl) rfl rfl rfl ?_; clear S a; intro a S
      refine l_split (S.of 25 rfl) (fun bc12 => ?_) (fun bc12 => ?_)
      · skip
        have c12 := bc12
        replace c12 := not_eq_true_ c12
        
        refine l_off S rfl rfl rfl rfl bc12 rfl rfl ?_; clear S a; intro a S
        refine l_off S rfl rfl rfl rfl bc12 rfl rfl ?_; clear S a; intro a S
        refine l_pure S (p_pick_t rfl bc12 rfl) rfl rfl rfl ?_; clear S a; intro a S
        refine l_pure S (p_move rfl) rfl rfl rfl ?_; clear S a; intro a S
        refine l_off S rfl rfl rfl rfl rfl rfl rfl ?_; clear S a; intro a S
        refine l_off S rfl rfl rfl rfl rfl rfl rfl ?_; clear S a; intro a S
        refine l_pure S (p_pick_t rfl rfl rfl) rfl rfl rfl ?_; clear S a; intro a S
        refine l_nil ?_
        refine e_then ?_
        refine c_cond (b := true) S rfl (fun _ => ?_) (fun h => by cases h)
        refine wp_seq ?_
        refine c_region ?_
        refine l_pure S (p_assign rfl) rfl rfl rfl ?_; clear S a; intro a S
        refine l_nil ?_
        refine e_then ?_
        refine wp_ret ?_
        refine e_then_ret ?_
        first | exact r_ret1 S rfl rfl ⟨rfl, H.below⟩ | exact r_ret1 S rfl rfl ⟨by rw [show ((lf : Int) == ((s.size - m : Nat) : Int)) = true from beq_iff_eq.2 (by omega)], H.below⟩ | exact r_ret1 S rfl rfl ⟨by rw [show ((lf : Int) == (s.size : Int) - (m : Int)) = true from beq_iff_eq.2 (by omega)], H.below⟩
      · skip
        have c12 := bc12
        replace c12 := not_eq_false_ c12
        
        refine l_on S rfl rfl rfl rfl bc12 ?_
        refine l_pure S (p_move rfl) rfl rfl rfl ?_; clear S a; intro a S
        refine l_on S rfl rfl rfl rfl bc12 ?_
        refine l_pure S (p_lss rfl rfl) rfl rfl rfl ?_; clear S a; intro a S
        refine l_pure S (p_pick_f rfl bc12 rfl) rfl rfl rfl ?_; clear S a; intro a S
        refine l_pure S (p_move rfl) rfl rfl rfl ?_; clear S a; intro a S
        refine l_split (S.of 29 rfl) (fun bc18 => ?_) (fun bc18 => ?_)
        · skip
          have c18 := bc18
          have c18 := of_decide_eq_true c18
          refine l_off S rfl rfl rfl rfl bc18 rfl rfl ?_; clear S a; intro a S
          refine l_off S rfl rfl rfl rfl bc18 rfl rfl ?_; clear S a; intro a S
          refine l_pure S (p_pick_t rfl bc18 rfl) rfl rfl rfl ?_; clear S a; intro a S
          refine l_nil ?_
          refine e_then ?_
          refine c_cond (b := true) S rfl (fun _ => ?_) (fun h => by cases h)
          refine wp_seq ?_
          refine c_region ?_
          refine l_pure S (p_assign rfl) rfl rfl rfl ?_; clear S a; intro a S
          refine l_nil ?_
          refine e_then ?_
          refine wp_ret ?_
          refine e_then_ret ?_
          first | exact r_ret1 S rfl rfl ⟨rfl, H.below⟩ | exact r_ret1 S rfl rfl ⟨by rw [show ((lf : Int) == ((s.size - m : Nat) : Int)) = true from beq_iff_eq.2 (by omega)], H.below⟩ | exact r_ret1 S rfl rfl ⟨by rw [show ((lf : Int) == (s.size : Int) - (m : Int)) = true from beq_iff_eq.2 (by omega)], H.below⟩
        · skip
          have c18 := bc18
          have c18 := of_decide_eq_false c18
          refine l_on S rfl rfl rfl rfl bc18 ?_
          refine l_pure S (p_move rfl) rfl rfl rfl ?_; clear S a; intro a S
          refine l_on S rfl rfl rfl rfl bc18 ?_
          refine l_pure S (p_gtr rfl rfl) rfl rfl rfl ?_; clear S a; intro a S
          refine l_pure S (p_pick_f rfl bc18 rfl) rfl rfl rfl ?_; clear S a; intro a S
          refine l_nil ?_
          refine e_then ?_
          refine c_cond S rfl (fun c23 => ?_) (fun c23 => ?_)
          · skip
            have c23 := of_decide_eq_true c23
            refine wp_seq ?_
            refine c_region ?_
            refine l_pure S (p_assign rfl) rfl rfl rfl ?_; clear S a; intro a S
            refine l_nil ?_
            refine e_then ?_
            refine wp_ret ?_
            refine e_then_ret ?_
            first | exact r_ret1 S rfl rfl ⟨rfl, H.below⟩ | exact r_ret1 S rfl rfl ⟨by rw [show ((lf : Int) == ((s.size - m : Nat) : Int)) = true from beq_iff_eq.2 (by omega)], H.below⟩ | exact r_ret1 S rfl rfl ⟨by rw [show ((lf : Int) == (s.size : Int) - (m : Int)) = true from beq_iff_eq.2 (by omega)], H.below⟩
          · skip
            have c23 := of_decide_eq_false c23
            refine wp_skip ?_
            refine e_then ?_
            refine wp_seq ?_
            refine c_region ?_
            refine l_pure S (p_move rfl) rfl rfl rfl ?_; clear S a; intro a S
            refine l_pure S (p_move rfl) rfl rfl rfl ?_; clear S a; intro a S
            refine l_pure S (p_move rfl) rfl rfl rfl ?_; clear S a; intro a S
            refine l_pure S (p_move rfl) rfl rfl rfl ?_; clear S a; intro a S
            obtain ⟨h2000, h50⟩ := hok (by assumption)
            obtain ⟨m, rfl⟩ := Int.eq_ofNat_of_zero_le (show 0 ≤ n by omega)
            have hcon := impl_ w s m Az zs cz pl (C_old hC H) hzc h50 (by omega) (by omega) ae ((H.old hlt).trans hE) (Nat.lt_of_lt_of_le hlt H.below.size) qe ((H.old hltU).trans hU) (Nat.lt_of_lt_of_le hltU H.below.size)
            refine l_call S rfl rfl Tryd.func7 rfl rfl (hcon) rfl rfl rfl ?_
            rintro e w ⟨lf, x, rfl, hcase, hb⟩
            refine ⟨_, rfl, ?_⟩; clear S a; intro a S
            replace H := H.later hb; clear hb hcon
            refine l_pure S (p_move rfl) rfl rfl rfl ?_; clear S a; intro a S
            refine l_pure S (p_extract rfl rfl) rfl rfl rfl ?_; clear S a; intro a S
            refine l_pure S (p_extract rfl rfl) rfl rfl rfl ?_; clear S a; intro a S
            refine l_pure S (p_assign rfl) rfl rfl rfl ?_; clear S a; intro a S
            refine l_pure S (p_assign rfl) rfl rfl rfl ?_; clear S a; intro a S
            refine l_nil ?_
            refine e_then ?_
            refine wp_seq ?_
            refine c_region ?_
            refine l_pure S (p_move rfl) rfl rfl rfl ?_; clear S a; intro a S
            have hcon := impl_ w ⟨#[97, 98]⟩ 1 none [] 0 pl ⟨rfl, by simp, fun h => absurd h (by simp)⟩ (Nat.le_refl 0) (Nat.zero_le _) (by decide) (by omega) ae ((H.old hlt).trans hE) (Nat.lt_of_lt_of_le hlt H.below.size) qe ((H.old hltU).trans hU) (Nat.lt_of_lt_of_le hltU H.below.size)
            refine l_call S rfl rfl Tryd.func7 rfl rfl (hcon) rfl rfl rfl ?_
            rintro e w ⟨lf2, x2, rfl, hcase2, hb⟩
            refine ⟨_, rfl, ?_⟩; clear S a; intro a S
            replace H := H.later hb; clear hb hcon
            have e2 : ByteArray.size ⟨#[97, 98]⟩ = 2 := rfl
            rw [e2] at hcase2
            obtain rfl : lf2 = 1 := by omega
            obtain rfl : x2 = 0 := by omega
            clear hcase2
            refine l_pure S (p_move rfl) rfl rfl rfl ?_; clear S a; intro a S
            refine l_pure S (p_extract rfl rfl) rfl rfl rfl ?_; clear S a; intro a S
            refine l_pure S (p_extract rfl rfl) rfl rfl rfl ?_; clear S a; intro a S
            refine l_pure S (p_assign rfl) rfl rfl rfl ?_; clear S a; intro a S
            refine l_pure S (p_assign rfl) rfl rfl rfl ?_; clear S a; intro a S
            refine l_nil ?_
            refine e_then ?_
            refine wp_seq ?_
            refine wp_seq ?_
            refine c_region ?_
            refine l_pure S (p_move rfl) rfl rfl rfl ?_; clear S a; intro a S
            refine l_pure S (p_move rfl) rfl rfl rfl ?_; clear S a; intro a S
            refine l_pure S (p_lens Tryd.underlying9 rfl) rfl rfl rfl ?_; clear S a; intro a S
            refine l_pure S (p_gtr rfl rfl) rfl rfl rfl ?_; clear S a; intro a S
            refine l_nil ?_
            refine e_then ?_
            refine c_cond S rfl (fun c28 => ?_) (fun c28 => ?_)
            · skip
              have c28 := of_decide_eq_true c28
              obtain ⟨hlt2, rfl⟩ : s.size < m ∧ x = 2 := by omega
              refine wp_seq ?_
              refine c_region ?_
              refine l_pure S (p_move rfl) rfl rfl rfl ?_; clear S a; intro a S
              refine l_pure S (p_eql rfl rfl) rfl rfl rfl ?_; clear S a; intro a S
              refine l_pure S (p_move rfl) rfl rfl rfl ?_; clear S a; intro a S
              refine l_on S rfl rfl rfl rfl rfl ?_
              refine l_pure S (p_move rfl) rfl rfl rfl ?_; clear S a; intro a S
              refine l_on S rfl rfl rfl rfl rfl ?_
              refine l_pure S (p_eql rfl rfl) rfl rfl rfl ?_; clear S a; intro a S
              refine l_pure S (p_pick_t rfl rfl rfl) rfl rfl rfl ?_; clear S a; intro a S
              refine l_pure S (p_move rfl) rfl rfl rfl ?_; clear S a; intro a S
              refine l_on S rfl rfl rfl rfl rfl ?_
              refine l_pure S (p_move rfl) rfl rfl rfl ?_; clear S a; intro a S
              refine l_on S rfl rfl rfl rfl rfl ?_
              refine l_pure S (p_eql rfl rfl) rfl rfl rfl ?_; clear S a; intro a S
              refine l_pure S (p_pick_t rfl rfl rfl) rfl rfl rfl ?_; clear S a; intro a S
              refine l_pure S (p_assign rfl) rfl rfl rfl ?_; clear S a; intro a S
              refine l_nil ?_
              refine e_then ?_
              refine wp_ret ?_
              refine e_then_ret ?_
              first | exact r_ret1 S rfl rfl ⟨rfl, H.below⟩ | exact r_ret1 S rfl rfl ⟨by rw [show ((lf : Int) == ((s.size - m : Nat) : Int)) = true from beq_iff_eq.2 (by omega)], H.below⟩ | exact r_ret1 S rfl rfl ⟨by rw [show ((lf : Int) == (s.size : Int) - (m : Int)) = true from beq_iff_eq.2 (by omega)], H.below⟩
            · skip
              have c28 := of_decide_eq_false c28
              obtain ⟨hle, rfl, hlf⟩ : m ≤ s.size ∧ x = 0 ∧ lf + m = s.size := by omega
              refine wp_skip ?_
              refine e_then ?_
              refine wp_seq ?_
              refine c_region ?_
              refine l_pure S (p_move rfl) rfl rfl rfl ?_; clear S a; intro a S
              refine l_pure S (p_eql rfl rfl) rfl rfl rfl ?_; clear S a; intro a S
              refine l_pure S (p_move rfl) rfl rfl rfl ?_; clear S a; intro a S
              refine l_on S rfl rfl rfl rfl rfl ?_
              refine l_pure S (p_move rfl) rfl rfl rfl ?_; clear S a; intro a S
              refine l_on S rfl rfl rfl rfl rfl ?_
              refine l_pure S (p_eql rfl rfl) rfl rfl rfl ?_; clear S a; intro a S
              refine l_pure S (p_pick_t rfl rfl rfl) rfl rfl rfl ?_; clear S a; intro a S
              refine l_pure S (p_move rfl) rfl rfl rfl ?_; clear S a; intro a S
              refine l_on S rfl rfl rfl rfl rfl ?_
              refine l_pure S (p_move rfl) rfl rfl rfl ?_; clear S a; intro a S
              refine l_on S rfl rfl rfl rfl rfl ?_
              refine l_pure S (p_eql rfl rfl) rfl rfl rfl ?_; clear S a; intro a S
              refine l_pure S (p_pick_t rfl rfl rfl) rfl rfl rfl ?_; clear S a; intro a S
              refine l_pure S (p_move rfl) rfl rfl rfl ?_; clear S a; intro a S
              refine l_on S rfl rfl rfl rfl rfl ?_
              refine l_pure S (p_move rfl) rfl rfl rfl ?_; clear S a; intro a S
              refine l_on S rfl rfl rfl rfl rfl ?_
              refine l_pure S (p_move rfl) rfl rfl rfl ?_; clear S a; intro a S
              refine l_on S rfl rfl rfl rfl rfl ?_
              refine l_pure S (p_lens Tryd.underlying9 rfl) rfl rfl rfl ?_; clear S a; intro a S
              refine l_on S rfl rfl rfl rfl rfl ?_
              refine l_pure S (p_move rfl) rfl rfl rfl ?_; clear S a; intro a S
              refine l_on S rfl rfl rfl rfl rfl ?_
              refine l_pure S (p_sub rfl rfl (nat_sub (x := s.size) (y := m) (by omega) (by omega))) rfl rfl rfl ?_; clear S a; intro a S
              refine l_on S rfl rfl rfl rfl rfl ?_
              refine l_pure S (p_eql rfl rfl) rfl rfl rfl ?_; clear S a; intro a S
              refine l_pure S (p_pick_t rfl rfl rfl) rfl rfl rfl ?_; clear S a; intro a S
              refine l_pure S (p_assign rfl) rfl rfl rfl ?_; clear S a; intro a S
              refine l_nil ?_
              refine e_then ?_
              refine wp_ret ?_
              first | exact r_ret1 S rfl rfl ⟨rfl, H.below⟩ | exact r_ret1 S rfl rfl ⟨by rw [show ((lf : Int) == ((s.size - m : Nat) : Int)) = true from beq_iff_eq.2 (by omega)], H.below⟩ | exact r_ret1 S rfl rfl ⟨by rw [show ((lf : Int) == (s.size : Int) - (m : Int)) = true from beq_iff_eq.2 (by omega)], H.below⟩
end la
end Go.Proofs.YtnmelglnkefjfaaDoor.sk
