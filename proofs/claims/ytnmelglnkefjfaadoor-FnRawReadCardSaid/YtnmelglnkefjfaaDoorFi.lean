/- bufio's reader: what comes in, and how much of it. -/
import Derived.Test.YtnmelglnkefjfaaDoorRd
import Derived.Test.YtnmelglnkefjfaaDoorBf
namespace Go.Proofs.YtnmelglnkefjfaaDoor.fi
open Go.RowKit Go.Proofs.HHW Go.Proofs.YtnmelglnkefjfaaDoorW.PrintWords
set_option linter.unusedVariables false
set_option linter.unusedSimpArgs false
theorem meRead (w : World) (ad : Addr) : (method (Tryd.prog.types.size + Made.depth) 42 (.pointer (some ad)) "Read").run Tryd.prog w = .ok (115, .pointer (some ad)) w := by kernel_rfl
theorem mi49 : Tryd.prog.underlying 49 = some (.interface (Tryd.prog.methodsAt 49)) := by kernel_rfl
theorem ag3 : aggB Tryd.prog 3 = some false := by kernel_rfl
theorem ag49 : aggB Tryd.prog 49 = some false := by kernel_rfl
theorem ag52 : aggB Tryd.prog 52 = some false := by kernel_rfl
theorem ag55 : aggB Tryd.prog 55 = some false := by kernel_rfl
theorem fa153_0 (w : World) (g o : Nat) : (Instr.fieldAt 153 (.pointer (some ⟨g, o, none⟩)) 0).run Tryd.prog w = .ok (.pointer (some ⟨g, o + 0, none⟩)) w := by kernel_rfl
theorem fa153_1 (w : World) (g o : Nat) : (Instr.fieldAt 153 (.pointer (some ⟨g, o, none⟩)) 1).run Tryd.prog w = .ok (.pointer (some ⟨g, o + 1, none⟩)) w := by kernel_rfl
theorem fa153_2 (w : World) (g o : Nat) : (Instr.fieldAt 153 (.pointer (some ⟨g, o, none⟩)) 2).run Tryd.prog w = .ok (.pointer (some ⟨g, o + 2, none⟩)) w := by kernel_rfl
theorem fa153_3 (w : World) (g o : Nat) : (Instr.fieldAt 153 (.pointer (some ⟨g, o, none⟩)) 3).run Tryd.prog w = .ok (.pointer (some ⟨g, o + 3, none⟩)) w := by kernel_rfl
theorem fa153_4 (w : World) (g o : Nat) : (Instr.fieldAt 153 (.pointer (some ⟨g, o, none⟩)) 4).run Tryd.prog w = .ok (.pointer (some ⟨g, o + 4, none⟩)) w := by kernel_rfl
theorem sz3 : szB Tryd.prog 3 = some 1 := by kernel_rfl
theorem sz49 : szB Tryd.prog 49 = some 1 := by kernel_rfl
theorem sz5 : szB Tryd.prog 5 = some 1 := by kernel_rfl
set_option maxHeartbeats 1000000 in
theorem fill_ (wb w0 : World) (L0 : dc.Bk) (g gb gr : Nat) (cs : Array Value) (r : Nat) (vis : List Int) (s : ByteArray) (Az : Option Addr) (zs : List Int) (cz ap : Nat) (lb lr : Int) (ae : Addr) (hE : wb.cell? ⟨0, 0, none⟩ = some (.iface 143 (.pointer (some ae)))) (hlt : 0 < wb.heap.size) (H : HH wb.heap.size wb w0 ((g, .cells #[.slice (some ⟨gb, 0, none⟩) 4096 4096, .iface 42 (.pointer (some ⟨gr, 0, none⟩)), .int .i64 (r : Int), .int .i64 ((r + vis.length : Nat) : Int), .nilIface, .int .i64 lb, .int .i64 lr] 153 (0, 0)) :: (gb, .cells cs 5 (0, 0)) :: (gr, .cells #[.string s, .slice Az zs.length cz, .int .i64 (ap : Int), .bool false] 86 (0, 0)) :: L0)) (hcs : cs.size = 4096) (hrow : bf.Row cs r vis) (hw : r + vis.length ≤ 4096) (hv : vis.length < 4096) (hC : (Kd.int .i64).C wb Az zs.length zs) (hpos : zs = [] ∨ dc.pos zs zs.length = true) (hz : zs.length < 100) (ha : ap ≤ 1000000000000) (hs : s.size ≤ 1000000) (hfit : vis.length + s.size ≤ 4096) : Calls Tryd.prog 127 #[.pointer (some ⟨g, 0, none⟩)] w0 fun e w' => e = .returned (.tuple #[]) ∧ ∃ cs' ap', cs'.size = 4096 ∧ ap' ≤ ap + 100 ∧ ((s.size = 0 ∧ bf.Row cs' 0 vis ∧ HH wb.heap.size wb w' ((g, .cells #[.slice (some ⟨gb, 0, none⟩) 4096 4096, .iface 42 (.pointer (some ⟨gr, 0, none⟩)), .int .i64 ((0 : Nat) : Int), .int .i64 ((0 + vis.length : Nat) : Int), .iface 143 (.pointer (some ae)), .int .i64 lb, .int .i64 lr] 153 (0, 0)) :: (gb, .cells cs' 5 (0, 0)) :: (gr, .cells #[.string s, .slice Az zs.length cz, .int .i64 (ap' : Int), .bool false] 86 (0, 0)) :: L0)) ∨ ∃ k, (zs = [] → k = s.size) ∧ 0 < k ∧ k ≤ s.size ∧ vis.length + k ≤ 4096 ∧ bf.Row cs' 0 (vis ++ (ints s).take k) ∧ HH wb.heap.size wb w' ((g, .cells #[.slice (some ⟨gb, 0, none⟩) 4096 4096, .iface 42 (.pointer (some ⟨gr, 0, none⟩)), .int .i64 ((0 : Nat) : Int), .int .i64 ((0 + (vis ++ (ints s).take k).length : Nat) : Int), .nilIface, .int .i64 lb, .int .i64 lr] 153 (0, 0)) :: (gb, .cells cs' 5 (0, 0)) :: (gr, .cells #[.string (s.extract k s.size), .slice Az zs.length cz, .int .i64 (ap' : Int), .bool false] 86 (0, 0)) :: L0)) := by
  refine c_enter (args := [.pointer (some ⟨g, 0, none⟩)]) (k := 98) Tryd.func127 rfl rfl rfl (fun a S => ?_)
  refine c_cut (fun a w => ∃ cs1 : Array Value, SL a 99 [] [(0, .pointer (some ⟨g, 0, none⟩))] ∧ HH (wb.heap.size) wb w ((g, .cells #[.slice (some ⟨gb, 0, none⟩) 4096 4096, .iface 42 (.pointer (some ⟨gr, 0, none⟩)), .int .i64 ((0 : Nat) : Int), .int .i64 ((0 + vis.length : Nat) : Int), .nilIface, .int .i64 lb, .int .i64 lr] 153 (0, 0)) :: (gb, .cells cs1 5 (0, 0)) :: (gr, .cells #[.string s, .slice Az zs.length cz, .int .i64 (ap : Int), .bool false] 86 (0, 0)) :: L0) ∧ cs1.size = 4096 ∧ bf.Row cs1 0 vis) ?_ ?_
  · clear S a H; rintro a w ⟨cs1, S, H, hinv⟩
    obtain ⟨hcs1, hrow1⟩ := hinv
    clear hrow hcs
    obtain ⟨d0, hd0, hd1⟩ := bf.near_ hpos ap
    refine wp_seq ?_
    refine wp_seq ?_
    refine d_start (id := 4) [] 10 #[false, false, false, false, false, false, false, false, false, false] H rfl rfl rfl (fun w H => ?_)
    refine d_pure (i := 0) #[true, false, false, false, false, false, false, false, false, false] S rfl (p_move rfl) (wanted_none rfl) rfl rfl (by kernel_rfl) (fun _ _ _ h => h) ?_; clear S a; intro a S
    refine d_pure (i := 1) #[true, true, false, false, false, false, false, false, false, false] S rfl (p_nilCheck rfl) (wanted_none rfl) rfl rfl (by kernel_rfl) (fun _ _ _ h => h) ?_; clear S a; intro a S
    refine d_pure (i := 2) #[true, true, true, false, false, false, false, false, false, false] S rfl (p_fieldAddr rfl (fun w => fa153_3 w _ _)) (wanted_none rfl) rfl rfl (by kernel_rfl) (fun _ _ _ h => h) ?_; clear S a; intro a S
    refine d_read (i := 3) #[true, true, true, true, false, false, false, false, false, false] S H rfl (r_load rfl List.mem_cons_self rfl (fun w hc => ld1 ag3 hc)) (wanted_none rfl) rfl rfl (by kernel_rfl) (fun _ _ _ h => h) ?_; clear S a; intro a S
    refine d_pure (i := 4) #[true, true, true, true, true, false, false, false, false, false] S rfl (p_move rfl) (wanted_none rfl) rfl rfl (by kernel_rfl) (fun _ _ _ h => h) ?_; clear S a; intro a S
    refine d_pure (i := 5) #[true, true, true, true, true, true, false, false, false, false] S rfl (p_nilCheck rfl) (wanted_none rfl) rfl rfl (by kernel_rfl) (fun _ _ _ h => h) ?_; clear S a; intro a S
    refine d_pure (i := 6) #[true, true, true, true, true, true, true, false, false, false] S rfl (p_fieldAddr rfl (fun w => fa153_0 w _ _)) (wanted_none rfl) rfl rfl (by kernel_rfl) (fun _ _ _ h => h) ?_; clear S a; intro a S
    refine d_read (i := 7) #[true, true, true, true, true, true, true, true, false, false] S H rfl (r_load rfl List.mem_cons_self rfl (fun w hc => ld1 ag55 hc)) (wanted_none rfl) rfl rfl (by kernel_rfl) (fun _ _ _ h => h) ?_; clear S a; intro a S
    refine d_pure (i := 8) #[true, true, true, true, true, true, true, true, true, false] S rfl (p_len Tryd.underlying55 rfl) (wanted_none rfl) rfl rfl (by kernel_rfl) (fun _ _ _ h => h) ?_; clear S a; intro a S
    refine d_pure (i := 9) #[true, true, true, true, true, true, true, true, true, true] S rfl (p_geq rfl rfl) (wanted_none rfl) rfl rfl (by kernel_rfl) (fun _ _ _ h => h) ?_; clear S a; intro a S
    refine d_done (by kernel_rfl) ?_
    refine e_then ?_
    refine c_cond S rfl (fun c2 => by have c2 := of_decide_eq_true c2; exfalso; omega) (fun c2 => ?_)
    have c2 := of_decide_eq_false c2
    refine wp_skip ?_
    refine e_then ?_
    refine wp_seq ?_
    refine wp_seq ?_
    refine c_region ?_
    refine l_pure S (p_assign rfl) rfl rfl rfl ?_; clear S a; intro a S
    refine l_nil ?_
    refine e_then ?_
    refine wp_block ?_
    refine c_loop (σ := Nat × Nat × Nat) (fun s_ a w => match s_ with | ⟨i, d, a2⟩ => SL a 99 [] [(0, .pointer (some ⟨g, 0, none⟩)), (2, .int .i64 (i : Int))] ∧ HH (wb.heap.size) wb w ((g, .cells #[.slice (some ⟨gb, 0, none⟩) 4096 4096, .iface 42 (.pointer (some ⟨gr, 0, none⟩)), .int .i64 ((0 : Nat) : Int), .int .i64 ((0 + vis.length : Nat) : Int), .nilIface, .int .i64 lb, .int .i64 lr] 153 (0, 0)) :: (gb, .cells cs1 5 (0, 0)) :: (gr, .cells #[.string s, .slice Az zs.length cz, .int .i64 (a2 : Int), .bool false] 86 (0, 0)) :: L0) ∧ (d < i ∧ i ≤ 100 ∧ bf.Near zs a2 d ∧ a2 + i ≤ ap + 100)) (fun s_ => match s_ with | ⟨i, d, a2⟩ => i) ⟨100, d0, ap⟩ ⟨S.only ⟨rfl, rfl, trivial⟩, H, ⟨by omega, Nat.le_refl _, hd0, Nat.le_refl _⟩⟩ ?_
    clear S a H; rintro ⟨i, d, a2⟩ a w ⟨S, H, hinv⟩
    obtain ⟨hdi, hi, hnear, hap⟩ := hinv
    refine wp_seq ?_
    refine wp_seq ?_
    refine c_region ?_
    refine l_pure S (p_move rfl) rfl rfl rfl ?_; clear S a; intro a S
    refine l_pure S (p_gtr rfl rfl) rfl rfl rfl ?_; clear S a; intro a S
    refine l_nil ?_
    refine e_then ?_
    refine c_cond S rfl (fun c4 => ?_) (fun c4 => by have c4 := of_decide_eq_false c4; exfalso; omega)
    have c4 := of_decide_eq_true c4
    refine wp_skip ?_
    refine e_then ?_
    refine wp_seq ?_
    refine wp_block ?_
    refine wp_seq ?_
    refine d_start (id := 9) [15] 21 #[false, false, false, false, false, false, false, false, false, false, false, false, false, false, false, false, false, false, false, false, false] H rfl rfl rfl (fun w H => ?_)
    refine d_pure (i := 0) #[true, false, false, false, false, false, false, false, false, false, false, false, false, false, false, false, false, false, false, false, false] S rfl (p_move rfl) (wanted_none rfl) rfl rfl (by kernel_rfl) (fun _ _ _ h => h) ?_; clear S a; intro a S
    refine d_pure (i := 1) #[true, true, false, false, false, false, false, false, false, false, false, false, false, false, false, false, false, false, false, false, false] S rfl (p_nilCheck rfl) (wanted_none rfl) rfl rfl (by kernel_rfl) (fun _ _ _ h => h) ?_; clear S a; intro a S
    refine d_pure (i := 2) #[true, true, true, false, false, false, false, false, false, false, false, false, false, false, false, false, false, false, false, false, false] S rfl (p_fieldAddr rfl (fun w => fa153_1 w _ _)) (wanted_none rfl) rfl rfl (by kernel_rfl) (fun _ _ _ h => h) ?_; clear S a; intro a S
    refine d_read (i := 3) #[true, true, true, true, false, false, false, false, false, false, false, false, false, false, false, false, false, false, false, false, false] S H rfl (r_load rfl List.mem_cons_self rfl (fun w hc => ld1 ag52 hc)) (wanted_none rfl) rfl rfl (by kernel_rfl) (fun _ _ _ h => h) ?_; clear S a; intro a S
    refine d_pure (i := 4) #[true, true, true, true, true, false, false, false, false, false, false, false, false, false, false, false, false, false, false, false, false] S rfl (p_move rfl) (wanted_none rfl) rfl rfl (by kernel_rfl) (fun _ _ _ h => h) ?_; clear S a; intro a S
    refine d_pure (i := 5) #[true, true, true, true, true, true, false, false, false, false, false, false, false, false, false, false, false, false, false, false, false] S rfl (p_nilCheck rfl) (wanted_none rfl) rfl rfl (by kernel_rfl) (fun _ _ _ h => h) ?_; clear S a; intro a S
    refine d_pure (i := 6) #[true, true, true, true, true, true, true, false, false, false, false, false, false, false, false, false, false, false, false, false, false] S rfl (p_fieldAddr rfl (fun w => fa153_0 w _ _)) (wanted_none rfl) rfl rfl (by kernel_rfl) (fun _ _ _ h => h) ?_; clear S a; intro a S
    refine d_read (i := 7) #[true, true, true, true, true, true, true, true, false, false, false, false, false, false, false, false, false, false, false, false, false] S H rfl (r_load rfl List.mem_cons_self rfl (fun w hc => ld1 ag55 hc)) (wanted_none rfl) rfl rfl (by kernel_rfl) (fun _ _ _ h => h) ?_; clear S a; intro a S
    refine d_pure (i := 8) #[true, true, true, true, true, true, true, true, true, false, false, false, false, false, false, false, false, false, false, false, false] S rfl (p_move rfl) (wanted_none rfl) rfl rfl (by kernel_rfl) (fun _ _ _ h => h) ?_; clear S a; intro a S
    refine d_pure (i := 9) #[true, true, true, true, true, true, true, true, true, true, false, false, false, false, false, false, false, false, false, false, false] S rfl (p_nilCheck rfl) (wanted_none rfl) rfl rfl (by kernel_rfl) (fun _ _ _ h => h) ?_; clear S a; intro a S
    refine d_pure (i := 10) #[true, true, true, true, true, true, true, true, true, true, true, false, false, false, false, false, false, false, false, false, false] S rfl (p_fieldAddr rfl (fun w => fa153_3 w _ _)) (wanted_none rfl) rfl rfl (by kernel_rfl) (fun _ _ _ h => h) ?_; clear S a; intro a S
    refine d_read (i := 11) #[true, true, true, true, true, true, true, true, true, true, true, true, false, false, false, false, false, false, false, false, false] S H rfl (r_load rfl List.mem_cons_self rfl (fun w hc => ld1 ag3 hc)) (wanted_none rfl) rfl rfl (by kernel_rfl) (fun _ _ _ h => h) ?_; clear S a; intro a S
    refine d_pure (i := 12) #[true, true, true, true, true, true, true, true, true, true, true, true, true, false, false, false, false, false, false, false, false] S rfl (p_slice rfl (o_some rfl) (fun _ _ => o_none) (fun _ _ => o_none) (fun w => bf.sl_free Tryd.underlying55 sz5 rfl (by omega))) (wanted_none rfl) rfl rfl (by kernel_rfl) (fun _ _ _ h => h) ?_; clear S a; intro a S
    refine d_pure (i := 13) #[true, true, true, true, true, true, true, true, true, true, true, true, true, true, false, false, false, false, false, false, false] S rfl (p_nilCheckI rfl) (wanted_none rfl) rfl rfl (by kernel_rfl) (fun _ _ _ h => h) ?_; clear S a; intro a S
    refine d_pure (i := 14) #[true, true, true, true, true, true, true, true, true, true, true, true, true, true, true, false, false, false, false, false, false] S rfl (p_move rfl) (wanted_none rfl) rfl rfl (by kernel_rfl) (fun _ _ _ h => h) ?_; clear S a; intro a S
    have H2 : HH wb.heap.size wb w ((gr, _) :: (gb, _) :: ((g, _) :: L0)) := HH.perm H.pull2 (List.Perm.cons _ (List.Perm.swap _ _ _))
    have hcon := rd.read_ wb w _ gr gb s Az zs cz a2 cs1 (0 + vis.length) (4096 - (0 + vis.length)) (4096 - (0 + vis.length)) (Nat.le_refl _) ae hE hlt H2 hC (by omega) (by omega) (by omega) hs
    refine d_invoke_last (i := 15) #[true, true, true, true, true, true, true, true, true, true, true, true, true, true, true, true, false, false, false, false, false] S rfl rfl rfl rfl (meRead _ _) Tryd.func115 rfl rfl hcon (wanted_none rfl) rfl rfl (by kernel_rfl) rfl ?_; clear hcon H2
    rintro e w (⟨hs0, rfl, hH⟩ | ⟨hs1, rfl, hH⟩)
    · skip
      refine ⟨_, rfl, ?_⟩; clear S a; intro a S; clear H; have H := HH.perm hH.pull2 (List.Perm.cons _ (List.Perm.swap _ _ _)); clear hH
      refine d_pure (i := 16) #[true, true, true, true, true, true, true, true, true, true, true, true, true, true, true, true, true, false, false, false, false] S rfl (p_move rfl) (wanted_none rfl) rfl rfl (by kernel_rfl) (fun _ _ _ h => h) ?_; clear S a; intro a S
      refine d_pure (i := 17) #[true, true, true, true, true, true, true, true, true, true, true, true, true, true, true, true, true, true, false, false, false] S rfl (p_extract rfl rfl) (wanted_none rfl) rfl rfl (by kernel_rfl) (fun _ _ _ h => h) ?_; clear S a; intro a S
      refine d_pure (i := 18) #[true, true, true, true, true, true, true, true, true, true, true, true, true, true, true, true, true, true, true, false, false] S rfl (p_extract rfl rfl) (wanted_none rfl) rfl rfl (by kernel_rfl) (fun _ _ _ h => h) ?_; clear S a; intro a S
      refine d_pure (i := 19) #[true, true, true, true, true, true, true, true, true, true, true, true, true, true, true, true, true, true, true, true, false] S rfl (p_assign rfl) (wanted_none rfl) rfl rfl (by kernel_rfl) (fun _ _ _ h => h) ?_; clear S a; intro a S
      refine d_pure (i := 20) #[true, true, true, true, true, true, true, true, true, true, true, true, true, true, true, true, true, true, true, true, true] S rfl (p_assign rfl) (wanted_none rfl) rfl rfl (by kernel_rfl) (fun _ _ _ h => h) ?_; clear S a; intro a S
      refine d_done (by kernel_rfl) ?_
      refine e_then ?_
      refine wp_seq ?_
      refine wp_seq ?_
      refine c_region ?_
      refine l_pure S (p_move rfl) rfl rfl rfl ?_; clear S a; intro a S
      refine l_pure S (p_lss rfl rfl) rfl rfl rfl ?_; clear S a; intro a S
      refine l_nil ?_
      refine e_then ?_
      refine c_cond (b := false) S rfl (fun h => by cases h) (fun _ => ?_)
      refine wp_skip ?_
      refine e_then ?_
      refine wp_seq ?_
      refine c_region ?_
      refine l_pure S (p_move rfl) rfl rfl rfl ?_; clear S a; intro a S
      refine l_pure S (p_nilCheck rfl) rfl rfl rfl ?_; clear S a; intro a S
      refine l_pure S (p_fieldAddr rfl (fun w => fa153_3 w _ _)) rfl rfl rfl ?_; clear S a; intro a S
      refine l_read S H (r_load rfl List.mem_cons_self rfl (fun w hc => ld1 ag3 hc)) rfl rfl rfl ?_; clear S a; intro a S
      refine l_pure S (p_move rfl) rfl rfl rfl ?_; clear S a; intro a S
      refine l_pure S (p_add rfl rfl (nat_add (x := (0 + vis.length)) (y := 0) (by omega))) rfl rfl rfl ?_; clear S a; intro a S
      refine l_pure S (p_nilCheck rfl) rfl rfl rfl ?_; clear S a; intro a S
      refine l_pure S (p_fieldAddr rfl (fun w => fa153_3 w _ _)) rfl rfl rfl ?_; clear S a; intro a S
      refine l_store S H rfl rfl rfl .here (by first | decide | simp [Value.cells]) (fun w u hc hz => st1 sz3 rfl hc hz) rfl rfl ?_; clear S a H; intro w a H S
      refine l_nil ?_
      refine e_then ?_
      refine wp_seq ?_
      refine wp_seq ?_
      refine c_region ?_
      refine l_pure S (p_move rfl) rfl rfl rfl ?_; clear S a; intro a S
      refine l_pure S (p_ifnilN mi49 rfl rfl) rfl rfl rfl ?_; clear S a; intro a S
      refine l_nil ?_
      refine e_then ?_
      refine c_cond (b := true) S rfl (fun _ => ?_) (fun h => by cases h)
      refine wp_seq ?_
      refine c_region ?_
      refine l_pure S (p_move rfl) rfl rfl rfl ?_; clear S a; intro a S
      refine l_pure S (p_move rfl) rfl rfl rfl ?_; clear S a; intro a S
      refine l_pure S (p_nilCheck rfl) rfl rfl rfl ?_; clear S a; intro a S
      refine l_pure S (p_fieldAddr rfl (fun w => fa153_4 w _ _)) rfl rfl rfl ?_; clear S a; intro a S
      refine l_store S H rfl rfl rfl .here (by first | decide | simp [Value.cells]) (fun w u hc hz => st1 sz49 rfl hc hz) rfl rfl ?_; clear S a H; intro w a H S
      refine l_nil ?_
      refine e_then ?_
      refine wp_ret ?_
      refine e_then_ret ?_
      refine e_in_ret ?_
      refine e_then_ret ?_
      refine e_then_ret ?_
      refine e_in_ret ?_
      refine e_then_ret ?_
      exact r_ret0 S rfl ⟨rfl, cs1, a2, hcs1, by omega, .inl ⟨hs0, hrow1, H⟩⟩
    · skip
      refine ⟨_, rfl, ?_⟩; clear S a; intro a S; clear H; have H := HH.perm hH.pull2 (List.Perm.cons _ (List.Perm.swap _ _ _)); clear hH
      have hkl := dc.took_le zs a2 s.size (4096 - (0 + vis.length))
      have hkr : (dc.took zs a2 s.size (4096 - (0 + vis.length))) ≤ 4096 - (0 + vis.length) := dc.took_room _ _ _ _
      refine d_pure (i := 16) #[true, true, true, true, true, true, true, true, true, true, true, true, true, true, true, true, true, false, false, false, false] S rfl (p_move rfl) (wanted_none rfl) rfl rfl (by kernel_rfl) (fun _ _ _ h => h) ?_; clear S a; intro a S
      refine d_pure (i := 17) #[true, true, true, true, true, true, true, true, true, true, true, true, true, true, true, true, true, true, false, false, false] S rfl (p_extract rfl rfl) (wanted_none rfl) rfl rfl (by kernel_rfl) (fun _ _ _ h => h) ?_; clear S a; intro a S
      refine d_pure (i := 18) #[true, true, true, true, true, true, true, true, true, true, true, true, true, true, true, true, true, true, true, false, false] S rfl (p_extract rfl rfl) (wanted_none rfl) rfl rfl (by kernel_rfl) (fun _ _ _ h => h) ?_; clear S a; intro a S
      refine d_pure (i := 19) #[true, true, true, true, true, true, true, true, true, true, true, true, true, true, true, true, true, true, true, true, false] S rfl (p_assign rfl) (wanted_none rfl) rfl rfl (by kernel_rfl) (fun _ _ _ h => h) ?_; clear S a; intro a S
      refine d_pure (i := 20) #[true, true, true, true, true, true, true, true, true, true, true, true, true, true, true, true, true, true, true, true, true] S rfl (p_assign rfl) (wanted_none rfl) rfl rfl (by kernel_rfl) (fun _ _ _ h => h) ?_; clear S a; intro a S
      refine d_done (by kernel_rfl) ?_
      refine e_then ?_
      refine wp_seq ?_
      refine wp_seq ?_
      refine c_region ?_
      refine l_pure S (p_move rfl) rfl rfl rfl ?_; clear S a; intro a S
      refine l_pure S (p_lss rfl rfl) rfl rfl rfl ?_; clear S a; intro a S
      refine l_nil ?_
      refine e_then ?_
      refine c_cond S rfl (fun c10 => by have c10 := of_decide_eq_true c10; exfalso; omega) (fun c10 => ?_)
      have c10 := of_decide_eq_false c10
      refine wp_skip ?_
      refine e_then ?_
      refine wp_seq ?_
      refine c_region ?_
      refine l_pure S (p_move rfl) rfl rfl rfl ?_; clear S a; intro a S
      refine l_pure S (p_nilCheck rfl) rfl rfl rfl ?_; clear S a; intro a S
      refine l_pure S (p_fieldAddr rfl (fun w => fa153_3 w _ _)) rfl rfl rfl ?_; clear S a; intro a S
      refine l_read S H (r_load rfl List.mem_cons_self rfl (fun w hc => ld1 ag3 hc)) rfl rfl rfl ?_; clear S a; intro a S
      refine l_pure S (p_move rfl) rfl rfl rfl ?_; clear S a; intro a S
      refine l_pure S (p_add rfl rfl (nat_add (x := (0 + vis.length)) (y := (dc.took zs a2 s.size (4096 - (0 + vis.length)))) (by omega))) rfl rfl rfl ?_; clear S a; intro a S
      refine l_pure S (p_nilCheck rfl) rfl rfl rfl ?_; clear S a; intro a S
      refine l_pure S (p_fieldAddr rfl (fun w => fa153_3 w _ _)) rfl rfl rfl ?_; clear S a; intro a S
      refine l_store S H rfl rfl rfl .here (by first | decide | simp [Value.cells]) (fun w u hc hz => st1 sz3 rfl hc hz) rfl rfl ?_; clear S a H; intro w a H S
      refine l_nil ?_
      refine e_then ?_
      refine wp_seq ?_
      refine wp_seq ?_
      refine c_region ?_
      refine l_pure S (p_move rfl) rfl rfl rfl ?_; clear S a; intro a S
      refine l_pure S (p_nilnilN mi49 rfl) rfl rfl rfl ?_; clear S a; intro a S
      refine l_nil ?_
      refine e_then ?_
      refine c_cond (b := false) S rfl (fun h => by cases h) (fun _ => ?_)
      refine wp_skip ?_
      refine e_then ?_
      refine wp_seq ?_
      refine c_region ?_
      refine l_pure S (p_move rfl) rfl rfl rfl ?_; clear S a; intro a S
      refine l_pure S (p_gtr rfl rfl) rfl rfl rfl ?_; clear S a; intro a S
      refine l_nil ?_
      refine e_then ?_
      refine c_cond S rfl (fun c14 => ?_) (fun c14 => ?_)
      · skip
        have c14 := of_decide_eq_true c14
        refine wp_ret ?_
        refine e_in_ret ?_
        refine e_then_ret ?_
        refine e_then_ret ?_
        refine e_in_ret ?_
        refine e_then_ret ?_
        have e3 : 0 + vis.length + (dc.took zs a2 s.size (4096 - (0 + vis.length))) = 0 + (vis ++ (ints s).take (dc.took zs a2 s.size (4096 - (0 + vis.length)))).length := by rw [List.length_append, List.length_take, ints_len]; omega
        have hrow2 := bf.row_more (t := (ints s).take (dc.took zs a2 s.size (4096 - (0 + vis.length)))) hrow1 (by rw [List.length_take, ints_len]; omega)
        rw [List.map_take] at hrow2
        rw [e3] at H
        exact r_ret0 S rfl ⟨rfl, _, _, by rw [spl_size]; exact hcs1, by split <;> omega, .inr ⟨(dc.took zs a2 s.size (4096 - (0 + vis.length))), (fun hz0 => by unfold dc.took; rw [if_pos hz0]; omega), by omega, hkl, by omega, hrow2, H⟩⟩
      · skip
        have c14 := of_decide_eq_false c14
        have hk0 : (dc.took zs a2 s.size (4096 - (0 + vis.length))) = 0 := by omega
        have hns := bf.near_step hnear hs1 (show 0 < 4096 - (0 + vis.length) by omega) hk0
        rw [hk0, bf.ext0, List.take_zero, Nat.add_zero] at H
        have H : HH wb.heap.size wb _ (_ :: (gb, .cells cs1 5 (0, 0)) :: _ :: L0) := H
        refine wp_skip ?_
        refine e_in 1 ?_
        refine e_then ?_
        refine c_region ?_
        refine l_pure S (p_move rfl) rfl rfl rfl ?_; clear S a; intro a S
        refine l_pure S (p_sub rfl rfl (nat_sub (x := i) (y := 1) (by omega) (by omega))) rfl rfl rfl ?_; clear S a; intro a S
        refine l_pure S (p_assign rfl) rfl rfl rfl ?_; clear S a; intro a S
        refine l_nil ?_
        refine e_then ?_
        exact ⟨⟨i - 1, d - 1, _⟩, ⟨S.only ⟨rfl, rfl, trivial⟩, H, ⟨by have := hns.1; omega, by omega, hns.2, by split <;> omega⟩⟩, (show i - 1 < i from by omega)⟩
  · skip
    refine wp_seq ?_
    refine c_region ?_
    refine l_pure S (p_move rfl) rfl rfl rfl ?_; clear S a; intro a S
    refine l_pure S (p_nilCheck rfl) rfl rfl rfl ?_; clear S a; intro a S
    refine l_pure S (p_fieldAddr rfl (fun w => fa153_2 w _ _)) rfl rfl rfl ?_; clear S a; intro a S
    refine l_read S H (r_load rfl List.mem_cons_self rfl (fun w hc => ld1 ag3 hc)) rfl rfl rfl ?_; clear S a; intro a S
    refine l_pure S (p_gtr rfl rfl) rfl rfl rfl ?_; clear S a; intro a S
    refine l_nil ?_
    refine e_then ?_
    refine c_cond S rfl (fun c16 => ?_) (fun c16 => ?_)
    · skip
      have c16 := of_decide_eq_true c16
      refine wp_seq ?_
      refine d_start (id := 1) [17] 18 #[false, false, false, false, false, false, false, false, false, false, false, false, false, false, false, false, false, false] H rfl rfl rfl (fun w H => ?_)
      refine d_pure (i := 0) #[true, false, false, false, false, false, false, false, false, false, false, false, false, false, false, false, false, false] S rfl (p_move rfl) (wanted_none rfl) rfl rfl (by kernel_rfl) (fun _ _ _ h => h) ?_; clear S a; intro a S
      refine d_pure (i := 1) #[true, true, false, false, false, false, false, false, false, false, false, false, false, false, false, false, false, false] S rfl (p_nilCheck rfl) (wanted_none rfl) rfl rfl (by kernel_rfl) (fun _ _ _ h => h) ?_; clear S a; intro a S
      refine d_pure (i := 2) #[true, true, true, false, false, false, false, false, false, false, false, false, false, false, false, false, false, false] S rfl (p_fieldAddr rfl (fun w => fa153_0 w _ _)) (wanted_none rfl) rfl rfl (by kernel_rfl) (fun _ _ _ h => h) ?_; clear S a; intro a S
      refine d_read (i := 3) #[true, true, true, true, false, false, false, false, false, false, false, false, false, false, false, false, false, false] S H rfl (r_load rfl List.mem_cons_self rfl (fun w hc => ld1 ag55 hc)) (wanted_none rfl) rfl rfl (by kernel_rfl) (fun _ _ _ h => h) ?_; clear S a; intro a S
      refine d_pure (i := 4) #[true, true, true, true, true, false, false, false, false, false, false, false, false, false, false, false, false, false] S rfl (p_move rfl) (wanted_none rfl) rfl rfl (by kernel_rfl) (fun _ _ _ h => h) ?_; clear S a; intro a S
      refine d_pure (i := 5) #[true, true, true, true, true, true, false, false, false, false, false, false, false, false, false, false, false, false] S rfl (p_nilCheck rfl) (wanted_none rfl) rfl rfl (by kernel_rfl) (fun _ _ _ h => h) ?_; clear S a; intro a S
      refine d_pure (i := 6) #[true, true, true, true, true, true, true, false, false, false, false, false, false, false, false, false, false, false] S rfl (p_fieldAddr rfl (fun w => fa153_0 w _ _)) (wanted_none rfl) rfl rfl (by kernel_rfl) (fun _ _ _ h => h) ?_; clear S a; intro a S
      refine d_read (i := 7) #[true, true, true, true, true, true, true, true, false, false, false, false, false, false, false, false, false, false] S H rfl (r_load rfl List.mem_cons_self rfl (fun w hc => ld1 ag55 hc)) (wanted_none rfl) rfl rfl (by kernel_rfl) (fun _ _ _ h => h) ?_; clear S a; intro a S
      refine d_pure (i := 8) #[true, true, true, true, true, true, true, true, true, false, false, false, false, false, false, false, false, false] S rfl (p_move rfl) (wanted_none rfl) rfl rfl (by kernel_rfl) (fun _ _ _ h => h) ?_; clear S a; intro a S
      refine d_pure (i := 9) #[true, true, true, true, true, true, true, true, true, true, false, false, false, false, false, false, false, false] S rfl (p_nilCheck rfl) (wanted_none rfl) rfl rfl (by kernel_rfl) (fun _ _ _ h => h) ?_; clear S a; intro a S
      refine d_pure (i := 10) #[true, true, true, true, true, true, true, true, true, true, true, false, false, false, false, false, false, false] S rfl (p_fieldAddr rfl (fun w => fa153_2 w _ _)) (wanted_none rfl) rfl rfl (by kernel_rfl) (fun _ _ _ h => h) ?_; clear S a; intro a S
      refine d_read (i := 11) #[true, true, true, true, true, true, true, true, true, true, true, true, false, false, false, false, false, false] S H rfl (r_load rfl List.mem_cons_self rfl (fun w hc => ld1 ag3 hc)) (wanted_none rfl) rfl rfl (by kernel_rfl) (fun _ _ _ h => h) ?_; clear S a; intro a S
      refine d_pure (i := 12) #[true, true, true, true, true, true, true, true, true, true, true, true, true, false, false, false, false, false] S rfl (p_move rfl) (wanted_none rfl) rfl rfl (by kernel_rfl) (fun _ _ _ h => h) ?_; clear S a; intro a S
      refine d_pure (i := 13) #[true, true, true, true, true, true, true, true, true, true, true, true, true, true, false, false, false, false] S rfl (p_nilCheck rfl) (wanted_none rfl) rfl rfl (by kernel_rfl) (fun _ _ _ h => h) ?_; clear S a; intro a S
      refine d_pure (i := 14) #[true, true, true, true, true, true, true, true, true, true, true, true, true, true, true, false, false, false] S rfl (p_fieldAddr rfl (fun w => fa153_3 w _ _)) (wanted_none rfl) rfl rfl (by kernel_rfl) (fun _ _ _ h => h) ?_; clear S a; intro a S
      refine d_read (i := 15) #[true, true, true, true, true, true, true, true, true, true, true, true, true, true, true, true, false, false] S H rfl (r_load rfl List.mem_cons_self rfl (fun w hc => ld1 ag3 hc)) (wanted_none rfl) rfl rfl (by kernel_rfl) (fun _ _ _ h => h) ?_; clear S a; intro a S
      refine d_pure (i := 16) #[true, true, true, true, true, true, true, true, true, true, true, true, true, true, true, true, true, false] S rfl (p_slice rfl (o_some rfl) (o_some rfl) (fun _ _ => o_none) (fun w => bf.sl_cut Tryd.underlying55 sz5 rfl rfl (by omega) (by omega))) (wanted_none rfl) rfl rfl (by kernel_rfl) (fun _ _ _ h => h) ?_; clear S a; intro a S
      rw [show r + vis.length - r = vis.length by omega] at S
      refine d_copy (i := 17) #[true, true, true, true, true, true, true, true, true, true, true, true, true, true, true, true, true, true] S H rfl rfl rfl rfl Tryd.underlying55 sz5 (bf.first_cut H (List.mem_cons_of_mem _ List.mem_cons_self) hrow (fun e => List.length_eq_zero_iff.1 (by omega))) (by omega) (show Nat.min vis.length 4096 = vis.length from Nat.min_eq_left (by omega)) (.there .here) (wanted_none rfl) rfl rfl (by kernel_rfl) rfl ?_; clear S a H; intro w a H S
      refine d_done (by kernel_rfl) ?_
      refine e_then ?_
      refine wp_seq ?_
      refine d_start (id := 2) [11] 12 #[false, false, false, false, false, false, false, false, false, false, false, false] H rfl rfl rfl (fun w H => ?_)
      refine d_pure (i := 0) #[true, false, false, false, false, false, false, false, false, false, false, false] S rfl (p_move rfl) (wanted_none rfl) rfl rfl (by kernel_rfl) (fun _ _ _ h => h) ?_; clear S a; intro a S
      refine d_pure (i := 1) #[true, true, false, false, false, false, false, false, false, false, false, false] S rfl (p_nilCheck rfl) (wanted_none rfl) rfl rfl (by kernel_rfl) (fun _ _ _ h => h) ?_; clear S a; intro a S
      refine d_pure (i := 2) #[true, true, true, false, false, false, false, false, false, false, false, false] S rfl (p_fieldAddr rfl (fun w => fa153_3 w _ _)) (wanted_none rfl) rfl rfl (by kernel_rfl) (fun _ _ _ h => h) ?_; clear S a; intro a S
      refine d_read (i := 3) #[true, true, true, true, false, false, false, false, false, false, false, false] S H rfl (r_load rfl List.mem_cons_self rfl (fun w hc => ld1 ag3 hc)) (wanted_none rfl) rfl rfl (by kernel_rfl) (fun _ _ _ h => h) ?_; clear S a; intro a S
      refine d_pure (i := 4) #[true, true, true, true, true, false, false, false, false, false, false, false] S rfl (p_move rfl) (wanted_none rfl) rfl rfl (by kernel_rfl) (fun _ _ _ h => h) ?_; clear S a; intro a S
      refine d_pure (i := 5) #[true, true, true, true, true, true, false, false, false, false, false, false] S rfl (p_nilCheck rfl) (wanted_none rfl) rfl rfl (by kernel_rfl) (fun _ _ _ h => h) ?_; clear S a; intro a S
      refine d_pure (i := 6) #[true, true, true, true, true, true, true, false, false, false, false, false] S rfl (p_fieldAddr rfl (fun w => fa153_2 w _ _)) (wanted_none rfl) rfl rfl (by kernel_rfl) (fun _ _ _ h => h) ?_; clear S a; intro a S
      refine d_read (i := 7) #[true, true, true, true, true, true, true, true, false, false, false, false] S H rfl (r_load rfl List.mem_cons_self rfl (fun w hc => ld1 ag3 hc)) (wanted_none rfl) rfl rfl (by kernel_rfl) (fun _ _ _ h => h) ?_; clear S a; intro a S
      refine d_pure (i := 8) #[true, true, true, true, true, true, true, true, true, false, false, false] S rfl (p_sub rfl rfl (nat_sub (x := (r + vis.length)) (y := r) (by omega) (by omega))) (wanted_none rfl) rfl rfl (by kernel_rfl) (fun _ _ _ h => h) ?_; clear S a; intro a S
      refine d_pure (i := 9) #[true, true, true, true, true, true, true, true, true, true, false, false] S rfl (p_nilCheck rfl) (wanted_none rfl) rfl rfl (by kernel_rfl) (fun _ _ _ h => h) ?_; clear S a; intro a S
      refine d_pure (i := 10) #[true, true, true, true, true, true, true, true, true, true, true, false] S rfl (p_fieldAddr rfl (fun w => fa153_3 w _ _)) (wanted_none rfl) rfl rfl (by kernel_rfl) (fun _ _ _ h => h) ?_; clear S a; intro a S
      refine d_store (i := 11) #[true, true, true, true, true, true, true, true, true, true, true, true] S H rfl rfl rfl rfl .here (by first | decide | simp [Value.cells]) (fun w u hc hz => st1 sz3 rfl hc hz) (wanted_none rfl) rfl (by kernel_rfl) rfl ?_; clear S a H; intro w a H S
      refine d_done (by kernel_rfl) ?_
      refine e_then ?_
      refine c_region ?_
      refine l_pure S (p_move rfl) rfl rfl rfl ?_; clear S a; intro a S
      refine l_pure S (p_nilCheck rfl) rfl rfl rfl ?_; clear S a; intro a S
      refine l_pure S (p_fieldAddr rfl (fun w => fa153_2 w _ _)) rfl rfl rfl ?_; clear S a; intro a S
      refine l_store S H rfl rfl rfl .here (by first | decide | simp [Value.cells]) (fun w u hc hz => st1 sz3 rfl hc hz) rfl rfl ?_; clear S a H; intro w a H S
      refine l_nil ?_
      refine e_then ?_
      have e1 : r + vis.length - r = 0 + vis.length := by omega
      rw [e1, List.take_of_length_le (by rw [List.length_map]; exact Nat.le_refl _)] at H
      exact ⟨_, S.only ⟨rfl, trivial⟩, H, ⟨by rw [spl_size]; exact hcs, bf.row0_spl (by omega)⟩⟩
    · skip
      have c16 := of_decide_eq_false c16
      refine wp_skip ?_
      refine e_then ?_
      obtain rfl : r = 0 := by omega
      exact ⟨cs, S.only ⟨rfl, trivial⟩, H, ⟨hcs, hrow⟩⟩
end Go.Proofs.YtnmelglnkefjfaaDoor.fi
