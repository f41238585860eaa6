/- bufio's reader: bytes gone by. -/
import Derived.Test.YtnmelglnkefjfaaDoorBu
namespace Go.Proofs.YtnmelglnkefjfaaDoor.bu
open Go.RowKit Go.Proofs.HHW Go.Proofs.YtnmelglnkefjfaaDoorW.PrintWords
set_option linter.unusedVariables false
set_option linter.unusedSimpArgs false
namespace di
theorem ag3 : aggB Tryd.prog 3 = some false := by kernel_rfl
theorem ag49 : aggB Tryd.prog 49 = some false := by kernel_rfl
theorem fa153_2 (w : World) (g o : Nat) : (Instr.fieldAt 153 (.pointer (some ⟨g, o, none⟩)) 2).run Tryd.prog w = .ok (.pointer (some ⟨g, o + 2, none⟩)) w := by kernel_rfl
theorem fa153_4 (w : World) (g o : Nat) : (Instr.fieldAt 153 (.pointer (some ⟨g, o, none⟩)) 4).run Tryd.prog w = .ok (.pointer (some ⟨g, o + 4, none⟩)) w := by kernel_rfl
theorem fa153_5 (w : World) (g o : Nat) : (Instr.fieldAt 153 (.pointer (some ⟨g, o, none⟩)) 5).run Tryd.prog w = .ok (.pointer (some ⟨g, o + 5, none⟩)) w := by kernel_rfl
theorem fa153_6 (w : World) (g o : Nat) : (Instr.fieldAt 153 (.pointer (some ⟨g, o, none⟩)) 6).run Tryd.prog w = .ok (.pointer (some ⟨g, o + 6, none⟩)) w := by kernel_rfl
theorem sz3 : szB Tryd.prog 3 = some 1 := by kernel_rfl
set_option maxHeartbeats 1000000 in
theorem discard_ (wb w0 : World) (L0 : dc.Bk) (g gb gr : Nat) (cs : Array Value) (r : Nat) (vis : List Int) (s : ByteArray) (Az : Option Addr) (zs : List Int) (cz ap : Nat) (lb lr : Int) (n tot : Nat) (ae : Addr) (hE : wb.cell? ⟨0, 0, none⟩ = some (.iface 143 (.pointer (some ae)))) (hlt : 0 < wb.heap.size) (H : HH wb.heap.size wb w0 ((g, .cells #[.slice (some ⟨gb, 0, none⟩) 4096 4096, .iface 42 (.pointer (some ⟨gr, 0, none⟩)), .int .i64 (r : Int), .int .i64 ((r + vis.length : Nat) : Int), .nilIface, .int .i64 lb, .int .i64 lr] 153 (0, 0)) :: (gb, .cells cs 5 (0, 0)) :: (gr, .cells #[.string s, .slice Az zs.length cz, .int .i64 (ap : Int), .bool false] 86 (0, 0)) :: L0)) (hcs : cs.size = 4096) (hrow : bf.Row cs r vis) (hw : r + vis.length ≤ 4096) (hC : (Kd.int .i64).C wb Az zs.length zs) (hpos : zs = [] ∨ dc.pos zs zs.length = true) (hz : zs.length < 100) (hs : s.size ≤ 1000000) (hn : 0 < n) (hn2 : n ≤ 1000000) (ha : ap + 100 * n ≤ 1000000000000) (htot : vis.length + s.size = tot) : Calls Tryd.prog 123 #[.pointer (some ⟨g, 0, none⟩), .int .i64 (n : Int)] w0 fun e w' => ∃ (r' : Nat) (vis' : List Int) (s' : ByteArray) (cs' : Array Value) (ap' : Nat) (m er : Value), e = .returned (.tuple #[m, er]) ∧ cs'.size = 4096 ∧ bf.Row cs' r' vis' ∧ r' + vis'.length ≤ 4096 ∧ s'.size ≤ 1000000 ∧ ap' ≤ 1000000000000 ∧ HH wb.heap.size wb w' ((g, .cells #[.slice (some ⟨gb, 0, none⟩) 4096 4096, .iface 42 (.pointer (some ⟨gr, 0, none⟩)), .int .i64 (r' : Int), .int .i64 ((r' + vis'.length : Nat) : Int), .nilIface, .int .i64 (-1), .int .i64 (-1)] 153 (0, 0)) :: (gb, .cells cs' 5 (0, 0)) :: (gr, .cells #[.string s', .slice Az zs.length cz, .int .i64 (ap' : Int), .bool false] 86 (0, 0)) :: L0) ∧ ((n ≤ tot ∧ er = .nilIface ∧ vis'.length + s'.size + n = tot) ∨ (tot < n ∧ er = .iface 143 (.pointer (some ae)))) := by
  refine c_enter (args := [.pointer (some ⟨g, 0, none⟩), .int .i64 (n : Int)]) (k := 54) Tryd.func123 rfl rfl rfl (fun a S => ?_)
  refine wp_seq ?_
  refine c_region ?_
  refine l_pure S (p_assign rfl) rfl rfl rfl ?_; clear S a; intro a S
  refine l_pure S (p_assign rfl) rfl rfl rfl ?_; clear S a; intro a S
  refine l_nil ?_
  refine e_then ?_
  refine wp_seq ?_
  refine wp_seq ?_
  refine c_region ?_
  refine l_pure S (p_move rfl) rfl rfl rfl ?_; clear S a; intro a S
  refine l_pure S (p_lss rfl rfl) rfl rfl rfl ?_; clear S a; intro a S
  refine l_nil ?_
  refine e_then ?_
  refine c_cond S rfl (fun c2 => by have c2 := of_decide_eq_true c2; exfalso; omega) (fun c2 => ?_)
  have c2 := of_decide_eq_false c2
  refine wp_skip ?_
  refine e_then ?_
  refine wp_seq ?_
  refine wp_seq ?_
  refine c_region ?_
  refine l_pure S (p_move rfl) rfl rfl rfl ?_; clear S a; intro a S
  refine l_pure S (p_eql rfl rfl) rfl rfl rfl ?_; clear S a; intro a S
  refine l_nil ?_
  refine e_then ?_
  refine c_cond S rfl (fun c4 => by have c4 := eq_of_beq c4; exfalso; omega) (fun c4 => ?_)
  have c4 := ne_of_beq_false c4
  refine wp_skip ?_
  refine e_then ?_
  refine wp_seq ?_
  refine c_region ?_
  refine l_pure S (p_move rfl) rfl rfl rfl ?_; clear S a; intro a S
  refine l_pure S (p_nilCheck rfl) rfl rfl rfl ?_; clear S a; intro a S
  refine l_pure S (p_fieldAddr rfl (fun w => fa153_5 w _ _)) rfl rfl rfl ?_; clear S a; intro a S
  refine l_store S H rfl rfl rfl .here (by first | decide | simp [Value.cells]) (fun w u hc hz => st1 sz3 rfl hc hz) rfl rfl ?_; clear S a H; intro w a H S
  refine l_nil ?_
  refine e_then ?_
  refine wp_seq ?_
  refine c_region ?_
  refine l_pure S (p_move rfl) rfl rfl rfl ?_; clear S a; intro a S
  refine l_pure S (p_nilCheck rfl) rfl rfl rfl ?_; clear S a; intro a S
  refine l_pure S (p_fieldAddr rfl (fun w => fa153_6 w _ _)) rfl rfl rfl ?_; clear S a; intro a S
  refine l_store S H rfl rfl rfl .here (by first | decide | simp [Value.cells]) (fun w u hc hz => st1 sz3 rfl hc hz) rfl rfl ?_; clear S a H; intro w a H S
  refine l_nil ?_
  refine e_then ?_
  refine wp_seq ?_
  refine c_region ?_
  refine l_pure S (p_move rfl) rfl rfl rfl ?_; clear S a; intro a S
  refine l_pure S (p_assign rfl) rfl rfl rfl ?_; clear S a; intro a S
  refine l_nil ?_
  refine e_then ?_
  refine wp_block ?_
  refine c_loop (σ := Nat × Nat × List Int × ByteArray × Array Value × Nat) (fun s_ a w => match s_ with | ⟨rem, r, vis, s, cs, ap⟩ => SL a 56 [] [(0, .pointer (some ⟨g, 0, none⟩)), (1, .int .i64 (n : Int)), (6, .int .i64 (rem : Int))] ∧ HH (wb.heap.size) wb w ((g, .cells #[.slice (some ⟨gb, 0, none⟩) 4096 4096, .iface 42 (.pointer (some ⟨gr, 0, none⟩)), .int .i64 (r : Int), .int .i64 ((r + vis.length : Nat) : Int), .nilIface, .int .i64 (-1), .int .i64 (-1)] 153 (0, 0)) :: (gb, .cells cs 5 (0, 0)) :: (gr, .cells #[.string s, .slice Az zs.length cz, .int .i64 (ap : Int), .bool false] 86 (0, 0)) :: L0) ∧ (0 < rem ∧ rem ≤ n ∧ cs.size = 4096 ∧ bf.Row cs r vis ∧ r + vis.length ≤ 4096 ∧ s.size ≤ 1000000 ∧ ap + 100 * rem ≤ 1000000000000 ∧ vis.length + s.size + (n - rem) = tot)) (fun s_ => match s_ with | ⟨rem, r, vis, s, cs, ap⟩ => rem) ⟨n, r, vis, s, cs, ap⟩ ⟨S.only ⟨rfl, rfl, rfl, trivial⟩, H, ⟨hn, Nat.le_refl _, hcs, hrow, hw, hs, ha, by omega⟩⟩ ?_
  clear S a H; rintro ⟨rem, r, vis, s, cs, ap⟩ a w ⟨S, H, hinv⟩
  clear hcs hrow hw hs ha htot
  obtain ⟨hrem, hrn, hcs, hrow, hw, hs, ha, htot⟩ := hinv
  refine wp_block ?_
  refine wp_seq ?_
  refine c_region ?_
  refine l_pure S (p_move rfl) rfl rfl rfl ?_; clear S a; intro a S
  have hcon := buffered_ wb _ _ _ g gb gr r vis _ _ _ H (by omega)
  refine l_call S rfl rfl Tryd.func122 rfl rfl (hcon) rfl rfl rfl ?_
  rintro e w ⟨rfl, hH⟩
  refine ⟨_, rfl, ?_⟩; clear S a; intro a S
  clear H hcon; have H := hH; clear hH
  refine l_pure S (p_assign rfl) rfl rfl rfl ?_; clear S a; intro a S
  refine l_nil ?_
  refine e_then ?_
  refine wp_seq ?_
  refine wp_seq ?_
  refine c_region ?_
  refine l_pure S (p_move rfl) rfl rfl rfl ?_; clear S a; intro a S
  refine l_pure S (p_eql rfl rfl) rfl rfl rfl ?_; clear S a; intro a S
  refine l_nil ?_
  refine e_then ?_
  refine c_cond S rfl (fun c6 => ?_) (fun c6 => ?_)
  · skip
    have c6 := eq_of_beq c6
    refine wp_seq ?_
    refine c_region ?_
    refine l_pure S (p_move rfl) rfl rfl rfl ?_; clear S a; intro a S
    have hcon := fill_ wb _ L0 g gb gr cs r vis s Az zs cz ap _ _ ae hE hlt H hcs hrow hw (by omega) hC hpos hz (by omega) hs
    refine l_call S rfl rfl Tryd.func127 rfl rfl hcon rfl rfl rfl ?_; clear hcon
    rintro e w ⟨rfl, cs2, ap2, hcs2, hap2, ⟨hs0, hrow2, hH⟩ | ⟨k, hk1, hk2, hk3, hrow2, hH⟩⟩
    · skip
      refine ⟨_, rfl, ?_⟩; clear S a; intro a S; clear H; have H := hH; clear hH
      have hv0 : vis.length = 0 := by omega
      refine l_nil ?_
      refine e_then ?_
      refine c_region ?_
      refine l_pure S (p_move rfl) rfl rfl rfl ?_; clear S a; intro a S
      have hcon := buffered_ wb _ _ _ g gb gr 0 vis _ _ _ H (by omega)
      refine l_call S rfl rfl Tryd.func122 rfl rfl (hcon) rfl rfl rfl ?_
      rintro e w ⟨rfl, hH⟩
      refine ⟨_, rfl, ?_⟩; clear S a; intro a S
      clear H hcon; have H := hH; clear hH
      refine l_pure S (p_assign rfl) rfl rfl rfl ?_; clear S a; intro a S
      refine l_nil ?_
      refine e_then ?_
      refine wp_seq ?_
      refine wp_seq ?_
      refine c_region ?_
      refine l_pure S (p_move rfl) rfl rfl rfl ?_; clear S a; intro a S
      refine l_pure S (p_move rfl) rfl rfl rfl ?_; clear S a; intro a S
      refine l_pure S (p_gtr rfl rfl) rfl rfl rfl ?_; clear S a; intro a S
      refine l_nil ?_
      refine e_then ?_
      refine c_cond S rfl (fun h => by rw [(show decide ((vis.length : Int) > (rem : Int)) = false from decide_eq_false (by omega))] at h; cases h) (fun _ => ?_)
      refine wp_skip ?_
      refine e_then ?_
      refine wp_seq ?_
      refine c_region ?_
      refine l_pure S (p_move rfl) rfl rfl rfl ?_; clear S a; intro a S
      refine l_pure S (p_nilCheck rfl) rfl rfl rfl ?_; clear S a; intro a S
      refine l_pure S (p_fieldAddr rfl (fun w => fa153_2 w _ _)) rfl rfl rfl ?_; clear S a; intro a S
      refine l_read S H (r_load rfl List.mem_cons_self rfl (fun w hc => ld1 ag3 hc)) rfl rfl rfl ?_; clear S a; intro a S
      refine l_pure S (p_move rfl) rfl rfl rfl ?_; clear S a; intro a S
      refine l_pure S (p_add rfl rfl (nat_add (x := 0) (y := vis.length) (by omega))) rfl rfl rfl ?_; clear S a; intro a S
      refine l_pure S (p_nilCheck rfl) rfl rfl rfl ?_; clear S a; intro a S
      refine l_pure S (p_fieldAddr rfl (fun w => fa153_2 w _ _)) rfl rfl rfl ?_; clear S a; intro a S
      refine l_store S H rfl rfl rfl .here (by first | decide | simp [Value.cells]) (fun w u hc hz => st1 sz3 rfl hc hz) rfl rfl ?_; clear S a H; intro w a H S
      refine l_nil ?_
      refine e_then ?_
      refine wp_seq ?_
      refine c_region ?_
      refine l_pure S (p_move rfl) rfl rfl rfl ?_; clear S a; intro a S
      refine l_pure S (p_move rfl) rfl rfl rfl ?_; clear S a; intro a S
      refine l_pure S (p_sub rfl rfl (nat_sub (x := rem) (y := vis.length) (by omega) (by omega))) rfl rfl rfl ?_; clear S a; intro a S
      refine l_pure S (p_assign rfl) rfl rfl rfl ?_; clear S a; intro a S
      refine l_nil ?_
      refine e_then ?_
      refine wp_seq ?_
      refine wp_seq ?_
      refine c_region ?_
      refine l_pure S (p_move rfl) rfl rfl rfl ?_; clear S a; intro a S
      refine l_pure S (p_eql rfl rfl) rfl rfl rfl ?_; clear S a; intro a S
      have e5 : 0 + vis.length = 0 + vis.length + (vis.drop vis.length).length := by rw [List.length_drop]; omega
      replace H : HH wb.heap.size wb w ((g, .cells #[.slice (some ⟨gb, 0, none⟩) 4096 4096, .iface 42 (.pointer (some ⟨gr, 0, none⟩)), .int .i64 ((0 + vis.length : Nat) : Int), .int .i64 ((0 + vis.length + (vis.drop vis.length).length : Nat) : Int), .iface 143 (.pointer (some ae)), .int .i64 (-1), .int .i64 (-1)] 153 (0, 0)) :: (gb, .cells cs2 5 (0, 0)) :: (gr, .cells #[.string s, .slice Az zs.length cz, .int .i64 (ap2 : Int), .bool false] 86 (0, 0)) :: L0) := by rw [← e5]; exact H
      refine l_nil ?_
      refine e_then ?_
      refine c_cond S rfl (fun h => by rw [(show (((rem - vis.length : Nat) : Int) == 0) = false from beq_eq_false_iff_ne.2 (by omega))] at h; cases h) (fun _ => ?_)
      refine wp_skip ?_
      refine e_then ?_
      refine wp_seq ?_
      refine c_region ?_
      refine l_pure S (p_move rfl) rfl rfl rfl ?_; clear S a; intro a S
      refine l_pure S (p_nilCheck rfl) rfl rfl rfl ?_; clear S a; intro a S
      refine l_pure S (p_fieldAddr rfl (fun w => fa153_4 w _ _)) rfl rfl rfl ?_; clear S a; intro a S
      refine l_read S H (r_load rfl List.mem_cons_self rfl (fun w hc => ld1 ag49 hc)) rfl rfl rfl ?_; clear S a; intro a S
      refine l_pure S (p_ifnilN mi49 rfl rfl) rfl rfl rfl ?_; clear S a; intro a S
      refine l_nil ?_
      refine e_then ?_
      refine c_cond (b := true) S rfl (fun _ => ?_) (fun h => by cases h)
      refine wp_seq ?_
      refine c_region ?_
      refine l_pure S (p_move rfl) rfl rfl rfl ?_; clear S a; intro a S
      refine l_pure S (p_move rfl) rfl rfl rfl ?_; clear S a; intro a S
      refine l_pure S (p_sub rfl rfl (nat_sub (x := n) (y := (rem - vis.length)) (by omega) (by omega))) rfl rfl rfl ?_; clear S a; intro a S
      refine l_pure S (p_move rfl) rfl rfl rfl ?_; clear S a; intro a S
      have hcon := readErr_ wb _ _ _ g gb gr (0 + vis.length) (vis.drop vis.length) _ _ _ H
      refine l_call S rfl rfl Tryd.func128 rfl rfl (hcon) rfl rfl rfl ?_
      rintro e w ⟨rfl, hH⟩
      refine ⟨_, rfl, ?_⟩; clear S a; intro a S
      clear H hcon; have H := hH; clear hH
      refine l_pure S (p_assign rfl) rfl rfl rfl ?_; clear S a; intro a S
      refine l_pure S (p_assign rfl) rfl rfl rfl ?_; clear S a; intro a S
      refine l_nil ?_
      refine e_then ?_
      refine wp_ret ?_
      refine e_in_ret ?_
      refine e_then_ret ?_
      refine e_in_ret ?_
      refine r_ret2 S rfl rfl rfl ⟨(0 + vis.length), (vis.drop vis.length), s, cs2, ap2, _, _, rfl, hcs2, bf.row_drop hrow2, by rw [List.length_drop]; omega, by  omega, by omega, H, ?_⟩
      exact .inr ⟨by omega, rfl⟩
    · skip
      refine ⟨_, rfl, ?_⟩; clear S a; intro a S; clear H; have H := hH; clear hH
      obtain ⟨vis2, hvis2⟩ : ∃ x, x = vis ++ (ints s).take k := ⟨_, rfl⟩
      rw [← hvis2] at H hrow2
      have hl2 : vis2.length = k := by rw [hvis2, List.length_append, List.length_take, ints_len]; omega
      refine l_nil ?_
      refine e_then ?_
      refine c_region ?_
      refine l_pure S (p_move rfl) rfl rfl rfl ?_; clear S a; intro a S
      have hcon := buffered_ wb _ _ _ g gb gr 0 vis2 _ _ _ H (by omega)
      refine l_call S rfl rfl Tryd.func122 rfl rfl (hcon) rfl rfl rfl ?_
      rintro e w ⟨rfl, hH⟩
      refine ⟨_, rfl, ?_⟩; clear S a; intro a S
      clear H hcon; have H := hH; clear hH
      refine l_pure S (p_assign rfl) rfl rfl rfl ?_; clear S a; intro a S
      refine l_nil ?_
      refine e_then ?_
      refine wp_seq ?_
      refine wp_seq ?_
      refine c_region ?_
      refine l_pure S (p_move rfl) rfl rfl rfl ?_; clear S a; intro a S
      refine l_pure S (p_move rfl) rfl rfl rfl ?_; clear S a; intro a S
      refine l_pure S (p_gtr rfl rfl) rfl rfl rfl ?_; clear S a; intro a S
      refine l_nil ?_
      refine e_then ?_
      refine c_cond S rfl (fun c14 => ?_) (fun c14 => ?_)
      · skip
        have c14 := of_decide_eq_true c14
        refine c_region ?_
        refine l_pure S (p_move rfl) rfl rfl rfl ?_; clear S a; intro a S
        refine l_pure S (p_assign rfl) rfl rfl rfl ?_; clear S a; intro a S
        refine l_nil ?_
        refine e_then ?_
        refine wp_seq ?_
        refine c_region ?_
        refine l_pure S (p_move rfl) rfl rfl rfl ?_; clear S a; intro a S
        refine l_pure S (p_nilCheck rfl) rfl rfl rfl ?_; clear S a; intro a S
        refine l_pure S (p_fieldAddr rfl (fun w => fa153_2 w _ _)) rfl rfl rfl ?_; clear S a; intro a S
        refine l_read S H (r_load rfl List.mem_cons_self rfl (fun w hc => ld1 ag3 hc)) rfl rfl rfl ?_; clear S a; intro a S
        refine l_pure S (p_move rfl) rfl rfl rfl ?_; clear S a; intro a S
        refine l_pure S (p_add rfl rfl (nat_add (x := 0) (y := rem) (by omega))) rfl rfl rfl ?_; clear S a; intro a S
        refine l_pure S (p_nilCheck rfl) rfl rfl rfl ?_; clear S a; intro a S
        refine l_pure S (p_fieldAddr rfl (fun w => fa153_2 w _ _)) rfl rfl rfl ?_; clear S a; intro a S
        refine l_store S H rfl rfl rfl .here (by first | decide | simp [Value.cells]) (fun w u hc hz => st1 sz3 rfl hc hz) rfl rfl ?_; clear S a H; intro w a H S
        refine l_nil ?_
        refine e_then ?_
        refine wp_seq ?_
        refine c_region ?_
        refine l_pure S (p_move rfl) rfl rfl rfl ?_; clear S a; intro a S
        refine l_pure S (p_move rfl) rfl rfl rfl ?_; clear S a; intro a S
        refine l_pure S (p_sub rfl rfl (nat_sub (x := rem) (y := rem) (by omega) (by omega))) rfl rfl rfl ?_; clear S a; intro a S
        refine l_pure S (p_assign rfl) rfl rfl rfl ?_; clear S a; intro a S
        refine l_nil ?_
        refine e_then ?_
        refine wp_seq ?_
        refine wp_seq ?_
        refine c_region ?_
        refine l_pure S (p_move rfl) rfl rfl rfl ?_; clear S a; intro a S
        refine l_pure S (p_eql rfl rfl) rfl rfl rfl ?_; clear S a; intro a S
        have e5 : 0 + vis2.length = 0 + rem + (vis2.drop rem).length := by rw [List.length_drop]; omega
        replace H : HH wb.heap.size wb w ((g, .cells #[.slice (some ⟨gb, 0, none⟩) 4096 4096, .iface 42 (.pointer (some ⟨gr, 0, none⟩)), .int .i64 ((0 + rem : Nat) : Int), .int .i64 ((0 + rem + (vis2.drop rem).length : Nat) : Int), .nilIface, .int .i64 (-1), .int .i64 (-1)] 153 (0, 0)) :: (gb, .cells cs2 5 (0, 0)) :: (gr, .cells #[.string (s.extract k s.size), .slice Az zs.length cz, .int .i64 (ap2 : Int), .bool false] 86 (0, 0)) :: L0) := by rw [← e5]; exact H
        refine l_nil ?_
        refine e_then ?_
        refine c_cond S rfl (fun _ => ?_) (fun h => by rw [(show (((rem - rem : Nat) : Int) == 0) = true from beq_iff_eq.2 (by omega))] at h; cases h)
        refine wp_seq ?_
        refine c_region ?_
        refine l_pure S (p_move rfl) rfl rfl rfl ?_; clear S a; intro a S
        refine l_pure S (p_assign rfl) rfl rfl rfl ?_; clear S a; intro a S
        refine l_pure S (p_assign rfl) rfl rfl rfl ?_; clear S a; intro a S
        refine l_nil ?_
        refine e_then ?_
        refine wp_ret ?_
        refine e_then_ret ?_
        refine e_in_ret ?_
        refine e_then_ret ?_
        refine e_in_ret ?_
        refine r_ret2 S rfl rfl rfl ⟨(0 + rem), (vis2.drop rem), (s.extract k s.size), cs2, ap2, _, _, rfl, hcs2, bf.row_drop hrow2, by rw [List.length_drop]; omega, by rw [dc.ext_size hk2]; omega, by omega, H, ?_⟩
        exact .inl ⟨by omega, rfl, by rw [List.length_drop]; rw [dc.ext_size hk2]; omega⟩
      · skip
        have c14 := of_decide_eq_false c14
        refine wp_skip ?_
        refine e_then ?_
        refine wp_seq ?_
        refine c_region ?_
        refine l_pure S (p_move rfl) rfl rfl rfl ?_; clear S a; intro a S
        refine l_pure S (p_nilCheck rfl) rfl rfl rfl ?_; clear S a; intro a S
        refine l_pure S (p_fieldAddr rfl (fun w => fa153_2 w _ _)) rfl rfl rfl ?_; clear S a; intro a S
        refine l_read S H (r_load rfl List.mem_cons_self rfl (fun w hc => ld1 ag3 hc)) rfl rfl rfl ?_; clear S a; intro a S
        refine l_pure S (p_move rfl) rfl rfl rfl ?_; clear S a; intro a S
        refine l_pure S (p_add rfl rfl (nat_add (x := 0) (y := vis2.length) (by omega))) rfl rfl rfl ?_; clear S a; intro a S
        refine l_pure S (p_nilCheck rfl) rfl rfl rfl ?_; clear S a; intro a S
        refine l_pure S (p_fieldAddr rfl (fun w => fa153_2 w _ _)) rfl rfl rfl ?_; clear S a; intro a S
        refine l_store S H rfl rfl rfl .here (by first | decide | simp [Value.cells]) (fun w u hc hz => st1 sz3 rfl hc hz) rfl rfl ?_; clear S a H; intro w a H S
        refine l_nil ?_
        refine e_then ?_
        refine wp_seq ?_
        refine c_region ?_
        refine l_pure S (p_move rfl) rfl rfl rfl ?_; clear S a; intro a S
        refine l_pure S (p_move rfl) rfl rfl rfl ?_; clear S a; intro a S
        refine l_pure S (p_sub rfl rfl (nat_sub (x := rem) (y := vis2.length) (by omega) (by omega))) rfl rfl rfl ?_; clear S a; intro a S
        refine l_pure S (p_assign rfl) rfl rfl rfl ?_; clear S a; intro a S
        refine l_nil ?_
        refine e_then ?_
        refine wp_seq ?_
        refine wp_seq ?_
        refine c_region ?_
        refine l_pure S (p_move rfl) rfl rfl rfl ?_; clear S a; intro a S
        refine l_pure S (p_eql rfl rfl) rfl rfl rfl ?_; clear S a; intro a S
        have e5 : 0 + vis2.length = 0 + vis2.length + (vis2.drop vis2.length).length := by rw [List.length_drop]; omega
        replace H : HH wb.heap.size wb w ((g, .cells #[.slice (some ⟨gb, 0, none⟩) 4096 4096, .iface 42 (.pointer (some ⟨gr, 0, none⟩)), .int .i64 ((0 + vis2.length : Nat) : Int), .int .i64 ((0 + vis2.length + (vis2.drop vis2.length).length : Nat) : Int), .nilIface, .int .i64 (-1), .int .i64 (-1)] 153 (0, 0)) :: (gb, .cells cs2 5 (0, 0)) :: (gr, .cells #[.string (s.extract k s.size), .slice Az zs.length cz, .int .i64 (ap2 : Int), .bool false] 86 (0, 0)) :: L0) := by rw [← e5]; exact H
        refine l_nil ?_
        refine e_then ?_
        refine c_cond S rfl (fun c18 => ?_) (fun c18 => ?_)
        · skip
          have c18 := eq_of_beq c18
          refine wp_seq ?_
          refine c_region ?_
          refine l_pure S (p_move rfl) rfl rfl rfl ?_; clear S a; intro a S
          refine l_pure S (p_assign rfl) rfl rfl rfl ?_; clear S a; intro a S
          refine l_pure S (p_assign rfl) rfl rfl rfl ?_; clear S a; intro a S
          refine l_nil ?_
          refine e_then ?_
          refine wp_ret ?_
          refine e_then_ret ?_
          refine e_in_ret ?_
          refine e_then_ret ?_
          refine e_in_ret ?_
          refine r_ret2 S rfl rfl rfl ⟨(0 + vis2.length), (vis2.drop vis2.length), (s.extract k s.size), cs2, ap2, _, _, rfl, hcs2, bf.row_drop hrow2, by rw [List.length_drop]; omega, by rw [dc.ext_size hk2]; omega, by omega, H, ?_⟩
          exact .inl ⟨by omega, rfl, by rw [List.length_drop]; rw [dc.ext_size hk2]; omega⟩
        · skip
          have c18 := ne_of_beq_false c18
          refine wp_skip ?_
          refine e_then ?_
          refine wp_seq ?_
          refine c_region ?_
          refine l_pure S (p_move rfl) rfl rfl rfl ?_; clear S a; intro a S
          refine l_pure S (p_nilCheck rfl) rfl rfl rfl ?_; clear S a; intro a S
          refine l_pure S (p_fieldAddr rfl (fun w => fa153_4 w _ _)) rfl rfl rfl ?_; clear S a; intro a S
          refine l_read S H (r_load rfl List.mem_cons_self rfl (fun w hc => ld1 ag49 hc)) rfl rfl rfl ?_; clear S a; intro a S
          refine l_pure S (p_nilnilN mi49 rfl) rfl rfl rfl ?_; clear S a; intro a S
          refine l_nil ?_
          refine e_then ?_
          refine c_cond (b := false) S rfl (fun h => by cases h) (fun _ => ?_)
          refine wp_skip ?_
          refine e_in 1 ?_
          refine e_then ?_
          exact ⟨⟨rem - vis2.length, (0 + vis2.length), (vis2.drop vis2.length), (s.extract k s.size), cs2, ap2⟩, ⟨S.only ⟨rfl, rfl, rfl, trivial⟩, H, ⟨by omega, by omega, hcs2, bf.row_drop hrow2, by rw [List.length_drop]; omega, by rw [dc.ext_size hk2]; omega, by omega, by rw [List.length_drop]; rw [dc.ext_size hk2]; omega⟩⟩, (show rem - vis2.length < rem from by omega)⟩
  · skip
    have c6 := ne_of_beq_false c6
    refine wp_skip ?_
    refine e_then ?_
    refine wp_seq ?_
    refine wp_seq ?_
    refine c_region ?_
    refine l_pure S (p_move rfl) rfl rfl rfl ?_; clear S a; intro a S
    refine l_pure S (p_move rfl) rfl rfl rfl ?_; clear S a; intro a S
    refine l_pure S (p_gtr rfl rfl) rfl rfl rfl ?_; clear S a; intro a S
    refine l_nil ?_
    refine e_then ?_
    refine c_cond S rfl (fun c22 => ?_) (fun c22 => ?_)
    · skip
      have c22 := of_decide_eq_true c22
      refine c_region ?_
      refine l_pure S (p_move rfl) rfl rfl rfl ?_; clear S a; intro a S
      refine l_pure S (p_assign rfl) rfl rfl rfl ?_; clear S a; intro a S
      refine l_nil ?_
      refine e_then ?_
      refine wp_seq ?_
      refine c_region ?_
      refine l_pure S (p_move rfl) rfl rfl rfl ?_; clear S a; intro a S
      refine l_pure S (p_nilCheck rfl) rfl rfl rfl ?_; clear S a; intro a S
      refine l_pure S (p_fieldAddr rfl (fun w => fa153_2 w _ _)) rfl rfl rfl ?_; clear S a; intro a S
      refine l_read S H (r_load rfl List.mem_cons_self rfl (fun w hc => ld1 ag3 hc)) rfl rfl rfl ?_; clear S a; intro a S
      refine l_pure S (p_move rfl) rfl rfl rfl ?_; clear S a; intro a S
      refine l_pure S (p_add rfl rfl (nat_add (x := r) (y := rem) (by omega))) rfl rfl rfl ?_; clear S a; intro a S
      refine l_pure S (p_nilCheck rfl) rfl rfl rfl ?_; clear S a; intro a S
      refine l_pure S (p_fieldAddr rfl (fun w => fa153_2 w _ _)) rfl rfl rfl ?_; clear S a; intro a S
      refine l_store S H rfl rfl rfl .here (by first | decide | simp [Value.cells]) (fun w u hc hz => st1 sz3 rfl hc hz) rfl rfl ?_; clear S a H; intro w a H S
      refine l_nil ?_
      refine e_then ?_
      refine wp_seq ?_
      refine c_region ?_
      refine l_pure S (p_move rfl) rfl rfl rfl ?_; clear S a; intro a S
      refine l_pure S (p_move rfl) rfl rfl rfl ?_; clear S a; intro a S
      refine l_pure S (p_sub rfl rfl (nat_sub (x := rem) (y := rem) (by omega) (by omega))) rfl rfl rfl ?_; clear S a; intro a S
      refine l_pure S (p_assign rfl) rfl rfl rfl ?_; clear S a; intro a S
      refine l_nil ?_
      refine e_then ?_
      refine wp_seq ?_
      refine wp_seq ?_
      refine c_region ?_
      refine l_pure S (p_move rfl) rfl rfl rfl ?_; clear S a; intro a S
      refine l_pure S (p_eql rfl rfl) rfl rfl rfl ?_; clear S a; intro a S
      have e5 : r + vis.length = r + rem + (vis.drop rem).length := by rw [List.length_drop]; omega
      replace H : HH wb.heap.size wb w ((g, .cells #[.slice (some ⟨gb, 0, none⟩) 4096 4096, .iface 42 (.pointer (some ⟨gr, 0, none⟩)), .int .i64 ((r + rem : Nat) : Int), .int .i64 ((r + rem + (vis.drop rem).length : Nat) : Int), .nilIface, .int .i64 (-1), .int .i64 (-1)] 153 (0, 0)) :: (gb, .cells cs 5 (0, 0)) :: (gr, .cells #[.string s, .slice Az zs.length cz, .int .i64 (ap : Int), .bool false] 86 (0, 0)) :: L0) := by rw [← e5]; exact H
      refine l_nil ?_
      refine e_then ?_
      refine c_cond S rfl (fun _ => ?_) (fun h => by rw [(show (((rem - rem : Nat) : Int) == 0) = true from beq_iff_eq.2 (by omega))] at h; cases h)
      refine wp_seq ?_
      refine c_region ?_
      refine l_pure S (p_move rfl) rfl rfl rfl ?_; clear S a; intro a S
      refine l_pure S (p_assign rfl) rfl rfl rfl ?_; clear S a; intro a S
      refine l_pure S (p_assign rfl) rfl rfl rfl ?_; clear S a; intro a S
      refine l_nil ?_
      refine e_then ?_
      refine wp_ret ?_
      refine e_then_ret ?_
      refine e_in_ret ?_
      refine e_then_ret ?_
      refine e_in_ret ?_
      refine r_ret2 S rfl rfl rfl ⟨(r + rem), (vis.drop rem), s, cs, ap, _, _, rfl, hcs, bf.row_drop hrow, by rw [List.length_drop]; omega, by  omega, by omega, H, ?_⟩
      exact .inl ⟨by omega, rfl, by rw [List.length_drop];  omega⟩
    · skip
      have c22 := of_decide_eq_false c22
      refine wp_skip ?_
      refine e_then ?_
      refine wp_seq ?_
      refine c_region ?_
      refine l_pure S (p_move rfl) rfl rfl rfl ?_; clear S a; intro a S
      refine l_pure S (p_nilCheck rfl) rfl rfl rfl ?_; clear S a; intro a S
      refine l_pure S (p_fieldAddr rfl (fun w => fa153_2 w _ _)) rfl rfl rfl ?_; clear S a; intro a S
      refine l_read S H (r_load rfl List.mem_cons_self rfl (fun w hc => ld1 ag3 hc)) rfl rfl rfl ?_; clear S a; intro a S
      refine l_pure S (p_move rfl) rfl rfl rfl ?_; clear S a; intro a S
      refine l_pure S (p_add rfl rfl (nat_add (x := r) (y := vis.length) (by omega))) rfl rfl rfl ?_; clear S a; intro a S
      refine l_pure S (p_nilCheck rfl) rfl rfl rfl ?_; clear S a; intro a S
      refine l_pure S (p_fieldAddr rfl (fun w => fa153_2 w _ _)) rfl rfl rfl ?_; clear S a; intro a S
      refine l_store S H rfl rfl rfl .here (by first | decide | simp [Value.cells]) (fun w u hc hz => st1 sz3 rfl hc hz) rfl rfl ?_; clear S a H; intro w a H S
      refine l_nil ?_
      refine e_then ?_
      refine wp_seq ?_
      refine c_region ?_
      refine l_pure S (p_move rfl) rfl rfl rfl ?_; clear S a; intro a S
      refine l_pure S (p_move rfl) rfl rfl rfl ?_; clear S a; intro a S
      refine l_pure S (p_sub rfl rfl (nat_sub (x := rem) (y := vis.length) (by omega) (by omega))) rfl rfl rfl ?_; clear S a; intro a S
      refine l_pure S (p_assign rfl) rfl rfl rfl ?_; clear S a; intro a S
      refine l_nil ?_
      refine e_then ?_
      refine wp_seq ?_
      refine wp_seq ?_
      refine c_region ?_
      refine l_pure S (p_move rfl) rfl rfl rfl ?_; clear S a; intro a S
      refine l_pure S (p_eql rfl rfl) rfl rfl rfl ?_; clear S a; intro a S
      have e5 : r + vis.length = r + vis.length + (vis.drop vis.length).length := by rw [List.length_drop]; omega
      replace H : HH wb.heap.size wb w ((g, .cells #[.slice (some ⟨gb, 0, none⟩) 4096 4096, .iface 42 (.pointer (some ⟨gr, 0, none⟩)), .int .i64 ((r + vis.length : Nat) : Int), .int .i64 ((r + vis.length + (vis.drop vis.length).length : Nat) : Int), .nilIface, .int .i64 (-1), .int .i64 (-1)] 153 (0, 0)) :: (gb, .cells cs 5 (0, 0)) :: (gr, .cells #[.string s, .slice Az zs.length cz, .int .i64 (ap : Int), .bool false] 86 (0, 0)) :: L0) := by rw [← e5]; exact H
      refine l_nil ?_
      refine e_then ?_
      refine c_cond S rfl (fun c26 => ?_) (fun c26 => ?_)
      · skip
        have c26 := eq_of_beq c26
        refine wp_seq ?_
        refine c_region ?_
        refine l_pure S (p_move rfl) rfl rfl rfl ?_; clear S a; intro a S
        refine l_pure S (p_assign rfl) rfl rfl rfl ?_; clear S a; intro a S
        refine l_pure S (p_assign rfl) rfl rfl rfl ?_; clear S a; intro a S
        refine l_nil ?_
        refine e_then ?_
        refine wp_ret ?_
        refine e_then_ret ?_
        refine e_in_ret ?_
        refine e_then_ret ?_
        refine e_in_ret ?_
        refine r_ret2 S rfl rfl rfl ⟨(r + vis.length), (vis.drop vis.length), s, cs, ap, _, _, rfl, hcs, bf.row_drop hrow, by rw [List.length_drop]; omega, by  omega, by omega, H, ?_⟩
        exact .inl ⟨by omega, rfl, by rw [List.length_drop];  omega⟩
      · skip
        have c26 := ne_of_beq_false c26
        refine wp_skip ?_
        refine e_then ?_
        refine wp_seq ?_
        refine c_region ?_
        refine l_pure S (p_move rfl) rfl rfl rfl ?_; clear S a; intro a S
        refine l_pure S (p_nilCheck rfl) rfl rfl rfl ?_; clear S a; intro a S
        refine l_pure S (p_fieldAddr rfl (fun w => fa153_4 w _ _)) rfl rfl rfl ?_; clear S a; intro a S
        refine l_read S H (r_load rfl List.mem_cons_self rfl (fun w hc => ld1 ag49 hc)) rfl rfl rfl ?_; clear S a; intro a S
        refine l_pure S (p_nilnilN mi49 rfl) rfl rfl rfl ?_; clear S a; intro a S
        refine l_nil ?_
        refine e_then ?_
        refine c_cond (b := false) S rfl (fun h => by cases h) (fun _ => ?_)
        refine wp_skip ?_
        refine e_in 1 ?_
        refine e_then ?_
        exact ⟨⟨rem - vis.length, (r + vis.length), (vis.drop vis.length), s, cs, ap⟩, ⟨S.only ⟨rfl, rfl, rfl, trivial⟩, H, ⟨by omega, by omega, hcs, bf.row_drop hrow, by rw [List.length_drop]; omega, by  omega, by omega, by rw [List.length_drop];  omega⟩⟩, (show rem - vis.length < rem from by omega)⟩
end di
end Go.Proofs.YtnmelglnkefjfaaDoor.bu
