/- So many bytes, appended; numbers. -/
import Derived.Test.YtnmelglnkefjfaaDoorRc1
import Derived.Test.YtnmelglnkefjfaaDoorRq
namespace Go.Proofs.YtnmelglnkefjfaaDoor.rr
open Go.RowKit Go.Proofs.HHW Go.Proofs.YtnmelglnkefjfaaDoorW.PrintWords
set_option linter.unusedVariables false
set_option linter.unusedSimpArgs false
namespace re
theorem ag5 : aggB Tryd.prog 5 = some false := by kernel_rfl
theorem sz5 : szB Tryd.prog 5 = some 1 := by kernel_rfl
theorem in5 : (Tryd.prog.info? 5).map (fun i => (i.zero, i.size, i.bytes)) = some (some (.int .u8 0), 1, 1) := by kernel_rfl
theorem bld145_0 (x0_0 : ByteArray) : Tryd.prog.built 145 [(0, (.string x0_0))] = some #[.string x0_0] := by kernel_rfl
theorem mi49 : Tryd.prog.underlying 49 = some (.interface (Tryd.prog.methodsAt 49)) := by kernel_rfl
theorem mkE (w : World) (q : Addr) : (Instr.makeInterface 143 (.pointer (some q))).run Tryd.prog w = .ok (.iface 143 (.pointer (some q))) w := by kernel_rfl

theorem expand_ (wb w0 : World) (L0 : dc.Bk) (go n c : Nat) (co : Array Value) (f : Nat × Nat) (l : List Int) (H : HH wb.heap.size wb w0 ((go, .cells co 5 f) :: L0)) (hc : co.size = c) (hlc : l.length ≤ c) (hth : Thaw co f) (hl0 : bf.Row co 0 l) (hn0 : 0 < n) (hln : l.length ≤ n) (hn : n ≤ 10000000) : Calls Tryd.prog 62 #[.slice (some ⟨go, 0, none⟩) l.length c, .int .i64 (n : Int), .bool true] w0 fun e w' => ∃ g' c1 c' f', e = .returned (.slice (some ⟨g', 0, none⟩) n c') ∧ n ≤ c' ∧ c1.size = c' ∧ Thaw c1 f' ∧ bf.Row c1 0 l ∧ HH wb.heap.size wb w' ((g', .cells c1 5 f') :: L0) := by
  refine c_enter (args := [.slice (some ⟨go, 0, none⟩) l.length c, .int .i64 (n : Int), .bool true]) (k := 26) Tryd.func62 rfl rfl rfl (fun a S => ?_)
  refine wp_seq ?_
  refine c_region ?_
  refine l_pure S (p_assign rfl) rfl rfl rfl ?_; clear S a; intro a S
  refine l_nil ?_
  refine e_then ?_
  refine wp_seq ?_
  refine wp_seq ?_
  refine c_region ?_
  refine l_pure S (p_move rfl) rfl rfl rfl ?_; clear S a; intro a S
  refine l_pure S (p_eql rfl rfl) rfl rfl rfl ?_; clear S a; intro a S
  refine l_pure S (p_move rfl) rfl rfl rfl ?_; clear S a; intro a S
  refine l_off S rfl rfl rfl rfl (show ((n : Int) == 0) = false from beq_eq_false_iff_ne.2 (by omega)) rfl rfl ?_; clear S a; intro a S
  refine l_off S rfl rfl rfl rfl (show ((n : Int) == 0) = false from beq_eq_false_iff_ne.2 (by omega)) rfl rfl ?_; clear S a; intro a S
  refine l_pure S (p_pick_f rfl (show ((n : Int) == 0) = false from beq_eq_false_iff_ne.2 (by omega)) rfl) rfl rfl rfl ?_; clear S a; intro a S
  refine l_nil ?_
  refine e_then ?_
  refine c_cond (b := false) S rfl (fun h => by cases h) (fun _ => ?_)
  refine wp_seq ?_
  refine c_region ?_
  refine l_pure S (p_move rfl) rfl rfl rfl ?_; clear S a; intro a S
  refine l_pure S (p_cap Tryd.underlying55 rfl) rfl rfl rfl ?_; clear S a; intro a S
  refine l_pure S (p_move rfl) rfl rfl rfl ?_; clear S a; intro a S
  refine l_pure S (p_lss rfl rfl) rfl rfl rfl ?_; clear S a; intro a S
  refine l_nil ?_
  refine e_then ?_
  refine c_cond S rfl (fun bc5 => ?_) (fun bc5 => ?_)
  · skip
    have c5 := bc5
    have c5 := of_decide_eq_true c5
    refine wp_seq ?_
    refine c_region ?_
    refine l_pure S (p_move rfl) rfl rfl rfl ?_; clear S a; intro a S
    refine l_make (l := n) (c := n) S H rfl rfl rfl Tryd.underlying55 in5 (Nat.le_refl _) (by omega) (by omega) rfl rfl rfl ?_; clear S a H; intro gm cm w a hcm H S
    refine l_pure S (p_assign rfl) rfl rfl rfl ?_; clear S a; intro a S
    refine l_nil ?_
    refine e_then ?_
    refine wp_seq ?_
    refine wp_seq ?_
    refine c_region ?_
    refine l_pure S (p_move rfl) rfl rfl rfl ?_; clear S a; intro a S
    refine l_nil ?_
    refine e_then ?_
    refine c_cond (b := true) S rfl (fun _ => ?_) (fun h => by cases h)
    refine c_region ?_
    refine l_pure S (p_move rfl) rfl rfl rfl ?_; clear S a; intro a S
    refine l_pure S (p_move rfl) rfl rfl rfl ?_; clear S a; intro a S
    refine l_copy (k := l.length) S H rfl rfl rfl Tryd.underlying55 sz5 (rp.row_first H (List.mem_cons_of_mem _ List.mem_cons_self) hl0) (by omega) (Nat.min_eq_left hln) .here rfl rfl rfl ?_; clear S a H; intro w a H S
    rw [List.take_of_length_le (by rw [List.length_map]; exact Nat.le_refl _)] at H
    refine l_nil ?_
    refine e_then ?_
    refine wp_seq ?_
    refine c_region ?_
    refine l_pure S (p_move rfl) rfl rfl rfl ?_; clear S a; intro a S
    refine l_pure S (p_assign rfl) rfl rfl rfl ?_; clear S a; intro a S
    refine l_nil ?_
    refine e_then ?_
    refine wp_ret ?_
    refine e_then_ret ?_
    exact r_ret1 S rfl rfl ⟨gm, _, n, _, rfl, Nat.le_refl _, by rw [spl_size]; exact hcm, thaw0 _, bf.row0_spl (by omega), H.sub (by simp)⟩
  · skip
    have c5 := bc5
    have c5 := of_decide_eq_false c5
    refine wp_skip ?_
    refine e_then ?_
    refine wp_seq ?_
    refine c_region ?_
    refine l_pure S (p_move rfl) rfl rfl rfl ?_; clear S a; intro a S
    refine l_pure S (p_move rfl) rfl rfl rfl ?_; clear S a; intro a S
    refine l_pure S (p_slice rfl (fun _ _ => o_none) (o_some rfl) (fun _ _ => o_none) (fun w => sl_hi (m := n) Tryd.underlying55 sz5 rfl (by omega))) rfl rfl rfl ?_; clear S a; intro a S
    refine l_pure S (p_assign rfl) rfl rfl rfl ?_; clear S a; intro a S
    refine l_nil ?_
    refine e_then ?_
    refine wp_ret ?_
    exact r_ret1 S rfl rfl ⟨go, co, c, f, rfl, by omega, hc, hth, hl0, H⟩
theorem rnapp_ (wb w0 : World) (L0 : dc.Bk) (g gb gr : Nat) (cs : Array Value) (r : Nat) (vis : List Int) (s : ByteArray) (Az : Option Addr) (zs : List Int) (cz ap : Nat) (lb lr : Int) (go n c : Nat) (co : Array Value) (f : Nat × Nat) (l : List Int) (ae : Addr) (hE : wb.cell? ⟨0, 0, none⟩ = some (.iface 143 (.pointer (some ae)))) (hlt : 0 < wb.heap.size) (qe : Addr) (hU : wb.cell? ⟨1, 0, none⟩ = some (.iface 143 (.pointer (some qe)))) (hltU : 1 < wb.heap.size) (H : HH wb.heap.size wb w0 ((g, .cells #[.slice (some ⟨gb, 0, none⟩) 4096 4096, .iface 42 (.pointer (some ⟨gr, 0, none⟩)), .int .i64 (r : Int), .int .i64 ((r + vis.length : Nat) : Int), .nilIface, .int .i64 lb, .int .i64 lr] 153 (0, 0)) :: (gb, .cells cs 5 (0, 0)) :: (gr, .cells #[.string s, .slice Az zs.length cz, .int .i64 (ap : Int), .bool false] 86 (0, 0)) :: (go, .cells co 5 f) :: L0)) (hcs : cs.size = 4096) (hrow : bf.Row cs r vis) (hw : r + vis.length ≤ 4096) (hs : s.size = 0) (hc : co.size = c) (hlc : l.length ≤ c) (hth : Thaw co f) (hl0 : bf.Row co 0 l) (hn0 : 0 < n) (hn : n ≤ 2000000) (hl : l.length ≤ 2000000) : Calls Tryd.prog 54 #[.iface 102 (.pointer (some ⟨g, 0, none⟩)), .slice (some ⟨go, 0, none⟩) l.length c, .int .i64 (n : Int)] w0 fun e w' => (n ≤ vis.length ∧ ∃ (A' : Option Addr) (c' : Nat) (ow : dc.Bk) (r' : Nat) (lb' lr' : Int), e = .returned (.tuple #[.slice A' (l ++ vis.take n).length c', .nilIface]) ∧ OwnB 5 (.slice A' (l ++ vis.take n).length c') (l ++ vis.take n) ow ∧ bf.Row cs r' (vis.drop n) ∧ r' + (vis.drop n).length ≤ 4096 ∧ HH wb.heap.size wb w' ((g, .cells #[.slice (some ⟨gb, 0, none⟩) 4096 4096, .iface 42 (.pointer (some ⟨gr, 0, none⟩)), .int .i64 (r' : Int), .int .i64 ((r' + (vis.drop n).length : Nat) : Int), .nilIface, .int .i64 lb', .int .i64 lr'] 153 (0, 0)) :: (gb, .cells cs 5 (0, 0)) :: (gr, .cells #[.string s, .slice Az zs.length cz, .int .i64 (ap : Int), .bool false] 86 (0, 0)) :: (ow ++ L0))) ∨ (vis.length < n ∧ ∃ (A' : Option Addr) (n' c' : Nat) (q : Addr) (r' : Nat) (lb' lr' : Int), e = .returned (.tuple #[.slice A' n' c', .iface 143 (.pointer (some q))]) ∧ r' ≤ 4096 ∧ HH wb.heap.size wb w' ((g, .cells #[.slice (some ⟨gb, 0, none⟩) 4096 4096, .iface 42 (.pointer (some ⟨gr, 0, none⟩)), .int .i64 (r' : Int), .int .i64 ((r' + ([] : List Int).length : Nat) : Int), .nilIface, .int .i64 lb', .int .i64 lr'] 153 (0, 0)) :: (gb, .cells cs 5 (0, 0)) :: (gr, .cells #[.string s, .slice Az zs.length cz, .int .i64 (ap : Int), .bool false] 86 (0, 0)) :: L0)) := by
  refine c_enter (args := [.iface 102 (.pointer (some ⟨g, 0, none⟩)), .slice (some ⟨go, 0, none⟩) l.length c, .int .i64 (n : Int)]) (k := 29) Tryd.func54 rfl rfl rfl (fun a S => ?_)
  refine wp_seq ?_
  refine c_region ?_
  refine l_pure S (p_assign rfl) rfl rfl rfl ?_; clear S a; intro a S
  refine l_pure S (p_assign rfl) rfl rfl rfl ?_; clear S a; intro a S
  refine l_nil ?_
  refine e_then ?_
  refine wp_seq ?_
  refine wp_seq ?_
  refine c_region ?_
  refine l_pure S (p_move rfl) rfl rfl rfl ?_; clear S a; intro a S
  refine l_pure S (p_eql rfl rfl) rfl rfl rfl ?_; clear S a; intro a S
  refine l_nil ?_
  refine e_then ?_
  refine c_cond S rfl (fun c2 => by have c2 := eq_of_beq c2; exfalso; omega) (fun c2 => ?_)
  have c2 := ne_of_beq_false c2
  refine wp_skip ?_
  refine e_then ?_
  refine wp_seq ?_
  refine c_region ?_
  refine l_pure S (p_move rfl) rfl rfl rfl ?_; clear S a; intro a S
  refine l_pure S (p_len Tryd.underlying55 rfl) rfl rfl rfl ?_; clear S a; intro a S
  refine l_pure S (p_assign rfl) rfl rfl rfl ?_; clear S a; intro a S
  refine l_nil ?_
  refine e_then ?_
  refine wp_seq ?_
  refine c_region ?_
  refine l_pure S (p_move rfl) rfl rfl rfl ?_; clear S a; intro a S
  refine l_pure S (p_move rfl) rfl rfl rfl ?_; clear S a; intro a S
  refine l_pure S (p_len Tryd.underlying55 rfl) rfl rfl rfl ?_; clear S a; intro a S
  refine l_pure S (p_move rfl) rfl rfl rfl ?_; clear S a; intro a S
  refine l_pure S (p_add rfl rfl (nat_add (x := l.length) (y := n) (by omega))) rfl rfl rfl ?_; clear S a; intro a S
  have hcon := expand_ wb _ _ go (l.length + n) c co f l H.pull3 hc hlc hth hl0 (by omega) (by omega) (by omega)
  refine l_call S rfl rfl Tryd.func62 rfl rfl (hcon) rfl rfl rfl ?_
  rintro e w ⟨g', c1, c', f', rfl, hnc, hc1, hth1, hl1, hH⟩
  refine ⟨_, rfl, ?_⟩; clear S a; intro a S
  clear H hcon; have H := hH.push3; clear hH
  refine l_pure S (p_assign rfl) rfl rfl rfl ?_; clear S a; intro a S
  refine l_nil ?_
  refine e_then ?_
  refine wp_seq ?_
  refine c_region ?_
  refine l_pure S (p_move rfl) rfl rfl rfl ?_; clear S a; intro a S
  refine l_pure S (p_move rfl) rfl rfl rfl ?_; clear S a; intro a S
  refine l_pure S (p_move rfl) rfl rfl rfl ?_; clear S a; intro a S
  refine l_pure S (p_slice rfl (o_some rfl) (fun _ _ => o_none) (fun _ _ => o_none) (fun w => sl_lo (m := l.length) Tryd.underlying55 sz5 rfl (by omega))) rfl rfl rfl ?_; clear S a; intro a S
  rw [cutAt_off, show offAt 0 c' l.length = l.length by unfold offAt; rw [if_neg (by omega), Nat.zero_add], show l.length + n - l.length = n by omega] at S
  have hcon := rc.rfull_ wb _ L0 g gb gr cs r vis s Az zs cz ap lb lr g' l.length n (c' - l.length) c1 f' ae hE hlt qe hU hltU H hcs hrow hw hs hth1 (by omega) hn0 (by omega) (by omega)
  refine l_call S rfl rfl Tryd.func63 rfl rfl hcon rfl rfl rfl ?_
  rintro e w (⟨h1, rfl, r', lb', lr', hr', hw', hH⟩ | ⟨h1, x, q, rfl, r', c2, lb', lr', hr', hcz, hH⟩)
  · skip
    refine ⟨_, rfl, ?_⟩; clear S a; intro a S; clear H hcon; have H := hH; clear hH
    refine l_pure S (p_move rfl) rfl rfl rfl ?_; clear S a; intro a S
    refine l_pure S (p_extract rfl rfl) rfl rfl rfl ?_; clear S a; intro a S
    refine l_pure S (p_extract rfl rfl) rfl rfl rfl ?_; clear S a; intro a S
    refine l_pure S (p_assign rfl) rfl rfl rfl ?_; clear S a; intro a S
    refine l_pure S (p_assign rfl) rfl rfl rfl ?_; clear S a; intro a S
    refine l_nil ?_
    refine e_then ?_
    refine wp_seq ?_
    refine c_region ?_
    refine l_pure S (p_move rfl) rfl rfl rfl ?_; clear S a; intro a S
    refine l_pure S (p_move rfl) rfl rfl rfl ?_; clear S a; intro a S
    refine l_pure S (p_assign rfl) rfl rfl rfl ?_; clear S a; intro a S
    refine l_pure S (p_assign rfl) rfl rfl rfl ?_; clear S a; intro a S
    refine l_nil ?_
    refine e_then ?_
    refine wp_ret ?_
    have hll : l.length + n = (l ++ vis.take n).length := by rw [List.length_append, List.length_take, Nat.min_eq_left h1]
    rw [hll] at S
    exact r_ret2 S rfl rfl rfl (.inl ⟨h1, _, _, _, r', lb', lr', rfl, rp.own_row (by rw [← hll]; exact hnc) (by rw [spl_size]; exact hc1) (rp.thaw_spl hth1) (rp.row_add hl1 (by rw [List.length_take]; omega)), hr', hw', H⟩)
  · skip
    refine ⟨_, rfl, ?_⟩; clear S a; intro a S; clear H hcon; have H := hH; clear hH
    refine l_pure S (p_move rfl) rfl rfl rfl ?_; clear S a; intro a S
    refine l_pure S (p_extract rfl rfl) rfl rfl rfl ?_; clear S a; intro a S
    refine l_pure S (p_extract rfl rfl) rfl rfl rfl ?_; clear S a; intro a S
    refine l_pure S (p_assign rfl) rfl rfl rfl ?_; clear S a; intro a S
    refine l_pure S (p_assign rfl) rfl rfl rfl ?_; clear S a; intro a S
    refine l_nil ?_
    refine e_then ?_
    refine wp_seq ?_
    refine c_region ?_
    refine l_pure S (p_move rfl) rfl rfl rfl ?_; clear S a; intro a S
    refine l_pure S (p_move rfl) rfl rfl rfl ?_; clear S a; intro a S
    refine l_pure S (p_assign rfl) rfl rfl rfl ?_; clear S a; intro a S
    refine l_pure S (p_assign rfl) rfl rfl rfl ?_; clear S a; intro a S
    refine l_nil ?_
    refine e_then ?_
    refine wp_ret ?_
    exact r_ret2 S rfl rfl rfl (.inr ⟨h1, _, _, _, q, r', lb', lr', rfl, hr', H.pull3.tail⟩)
theorem new_ (B : Nat) (wb w0 : World) (L0 : dc.Bk) (tx : ByteArray) (H : HH B wb w0 L0) : Calls Tryd.prog 52 #[.string tx] w0 fun e w' => ∃ q, e = .returned (.iface 143 (.pointer (some q))) ∧ HH B wb w' L0 := by
  refine c_enter (args := [.string tx]) (k := 6) Tryd.func52 rfl rfl rfl (fun a S => ?_)
  refine wp_seq ?_
  refine c_region ?_
  refine l_pure S (p_assign rfl) rfl rfl rfl ?_; clear S a; intro a S
  refine l_nil ?_
  refine e_then ?_
  refine wp_seq ?_
  refine c_region ?_
  refine l_pure S (p_move rfl) rfl rfl rfl ?_; clear S a; intro a S
  refine l_pure S (p_bld (ps := [(0, .tmp 3)]) rfl (bld145_0 _)) rfl rfl rfl ?_; clear S a; intro a S
  refine l_box (cs := #[.string tx]) S H rfl rfl (fun w => bx) rfl rfl rfl ?_; clear S a H; intro g1 w a H S
  refine l_pure S (p_iface rfl (fun w => mkE w _)) rfl rfl rfl ?_; clear S a; intro a S
  refine l_pure S (p_assign rfl) rfl rfl rfl ?_; clear S a; intro a S
  refine l_nil ?_
  refine e_then ?_
  refine wp_ret ?_
  exact r_ret1 S rfl rfl ⟨_, rfl, H.tail⟩
set_option maxHeartbeats 1000000 in
theorem pu_ (w0 : World) (A : Option Addr) (c : Nat) (l : List Int) (hC : (Kd.int .u8).C w0 A l.length l) (hl : l.length ≤ 100000) : Calls Tryd.prog 61 #[.slice A l.length c] w0 fun e w' => HH w0.heap.size w0 w' [] ∧ (((l.all rp.dig && decide (l ≠ [])) = true ∧ ∃ n, e = .returned (.tuple #[.int .u64 n, .nilIface]) ∧ (l.length ≤ 18 → n = rp.val 0 l)) ∨ ((l.all rp.dig && decide (l ≠ [])) = false ∧ ∃ q, e = .returned (.tuple #[.int .u64 0, .iface 143 (.pointer (some q))]))) := by
  have H := HH.start w0
  refine c_enter (args := [.slice A l.length c]) (k := 32) Tryd.func61 rfl rfl rfl (fun a S => ?_)
  refine wp_seq ?_
  refine c_region ?_
  refine l_pure S (p_assign rfl) rfl rfl rfl ?_; clear S a; intro a S
  refine l_pure S (p_assign rfl) rfl rfl rfl ?_; clear S a; intro a S
  refine l_nil ?_
  refine e_then ?_
  refine wp_seq ?_
  refine wp_seq ?_
  refine c_region ?_
  refine l_pure S (p_move rfl) rfl rfl rfl ?_; clear S a; intro a S
  refine l_pure S (p_len Tryd.underlying55 rfl) rfl rfl rfl ?_; clear S a; intro a S
  refine l_pure S (p_eql rfl rfl) rfl rfl rfl ?_; clear S a; intro a S
  refine l_nil ?_
  refine e_then ?_
  refine c_cond S rfl (fun bc2 => ?_) (fun bc2 => ?_)
  · skip
    have c2 := bc2
    have c2 := eq_of_beq c2
    refine wp_seq ?_
    refine c_region ?_
    have hcon := new_ _ _ _ _ (⟨#[101, 109, 112, 116, 121, 32, 115, 108, 105, 99, 101, 32, 103, 105, 118, 101, 110, 32, 116, 111, 32, 112, 97, 114, 115, 101, 85, 105, 110, 116]⟩) H
    refine l_call S rfl rfl Tryd.func52 rfl rfl (hcon) rfl rfl rfl ?_
    rintro e w ⟨q, rfl, hH⟩
    refine ⟨_, rfl, ?_⟩; clear S a; intro a S
    clear H hcon; have H := hH; clear hH
    refine l_pure S (p_assign rfl) rfl rfl rfl ?_; clear S a; intro a S
    refine l_pure S (p_assign rfl) rfl rfl rfl ?_; clear S a; intro a S
    refine l_nil ?_
    refine e_then ?_
    refine wp_ret ?_
    refine e_then_ret ?_
    obtain rfl : l = [] := List.length_eq_zero_iff.1 (by omega)
    exact r_ret2 S rfl rfl rfl ⟨H, .inr ⟨by simp, _, rfl⟩⟩
  · skip
    have c2 := bc2
    have c2 := ne_of_beq_false c2
    refine wp_skip ?_
    refine e_then ?_
    refine wp_seq ?_
    refine c_region ?_
    refine l_pure S (p_assign rfl) rfl rfl rfl ?_; clear S a; intro a S
    refine l_nil ?_
    refine e_then ?_
    refine wp_seq ?_
    refine wp_seq ?_
    refine c_region ?_
    refine l_pure S (p_move rfl) rfl rfl rfl ?_; clear S a; intro a S
    refine l_pure S (p_len Tryd.underlying55 rfl) rfl rfl rfl ?_; clear S a; intro a S
    refine l_pure S (p_move rfl) rfl rfl rfl ?_; clear S a; intro a S
    refine l_nil ?_
    refine e_then ?_
    refine wp_block ?_
    refine c_loop (σ := Nat × Int) (fun s_ a w => match s_ with | ⟨i, n⟩ => SL a 33 [] [(2, .int .u64 0), (3, .nilIface), (4, .int .u64 n), (11, .slice A l.length c), (12, .int .i64 (l.length : Int)), (13, .int .i64 (i : Int))] ∧ HH (w0.heap.size) w0 w [] ∧ (i ≤ l.length ∧ (l.take i).all rp.dig = true ∧ (i ≤ 18 → n = rp.val 0 (l.take i)))) (fun s_ => match s_ with | ⟨i, n⟩ => l.length - i) ⟨0, 0⟩ ⟨S.only ⟨rfl, rfl, rfl, rfl, rfl, rfl, trivial⟩, H, ⟨Nat.zero_le _, by simp, fun _ => rfl⟩⟩ ?_
    clear S a H; rintro ⟨i, n⟩ a w ⟨S, H, hinv⟩
    obtain ⟨hi, hd1, hn1⟩ := hinv
    refine wp_seq ?_
    refine c_region ?_
    refine l_pure S (p_lss rfl rfl) rfl rfl rfl ?_; clear S a; intro a S
    refine l_nil ?_
    refine e_then ?_
    refine wp_seq ?_
    refine c_cond S rfl (fun bc4 => ?_) (fun bc4 => ?_)
    · skip
      have c4 := bc4
      have c4 := of_decide_eq_true c4
      refine wp_skip ?_
      refine e_then ?_
      refine wp_seq ?_
      refine wp_block ?_
      refine wp_seq ?_
      refine c_region ?_
      obtain ⟨ad, hA⟩ := C_some hC (show i < l.length by omega)
      refine l_pure S (p_indexAddr (u := .slice (some ad) l.length c) (by rw [← hA]; rfl) rfl (fun w => ia_any Tryd.underlying55 sz5 (by omega) (by omega))) rfl rfl rfl ?_; clear S a; intro a S
      refine l_read S H (r_row (i := i) (hA ▸ hC) rfl (by first | rfl | rw [Int.toNat_natCast, Nat.mul_one]) (get_some 0 (by omega)) ag5 rfl) rfl rfl rfl ?_; clear S a; intro a S
      refine l_pure S (p_assign rfl) rfl rfl rfl ?_; clear S a; intro a S
      refine l_nil ?_
      refine e_then ?_
      refine wp_seq ?_
      refine wp_seq ?_
      refine c_region ?_
      refine l_pure S (p_move rfl) rfl rfl rfl ?_; clear S a; intro a S
      refine l_pure S (p_lss rfl rfl) rfl rfl rfl ?_; clear S a; intro a S
      refine l_pure S (p_move rfl) rfl rfl rfl ?_; clear S a; intro a S
      refine l_split (S.of 19 rfl) (fun bc6 => ?_) (fun bc6 => ?_)
      · skip
        have c6 := bc6
        have c6 := of_decide_eq_true c6
        have hna : l.all rp.dig = false := rp.not_all (i := i) (by omega) (by omega)
        refine l_off S rfl rfl rfl rfl bc6 rfl rfl ?_; clear S a; intro a S
        refine l_off S rfl rfl rfl rfl bc6 rfl rfl ?_; clear S a; intro a S
        refine l_pure S (p_pick_t rfl bc6 rfl) rfl rfl rfl ?_; clear S a; intro a S
        refine l_nil ?_
        refine e_then ?_
        refine c_cond (b := true) S rfl (fun _ => ?_) (fun h => by cases h)
        refine wp_seq ?_
        refine c_region ?_
        have hcon := new_ _ _ _ _ (⟨#[105, 110, 118, 97, 108, 105, 100, 32, 99, 104, 97, 114, 97, 99, 116, 101, 114, 32, 105, 110, 32, 112, 97, 114, 115, 101, 85, 105, 110, 116]⟩) H
        refine l_call S rfl rfl Tryd.func52 rfl rfl (hcon) rfl rfl rfl ?_
        rintro e w ⟨q, rfl, hH⟩
        refine ⟨_, rfl, ?_⟩; clear S a; intro a S
        clear H hcon; have H := hH; clear hH
        refine l_pure S (p_assign rfl) rfl rfl rfl ?_; clear S a; intro a S
        refine l_pure S (p_assign rfl) rfl rfl rfl ?_; clear S a; intro a S
        refine l_nil ?_
        refine e_then ?_
        refine wp_ret ?_
        refine e_then_ret ?_
        refine e_in_ret ?_
        refine e_then_ret ?_
        refine e_then_ret ?_
        refine e_in_ret ?_
        refine e_then_ret ?_
        exact r_ret2 S rfl rfl rfl ⟨H, .inr ⟨by rw [hna]; rfl, _, rfl⟩⟩
      · skip
        have c6 := bc6
        have c6 := of_decide_eq_false c6
        refine l_on S rfl rfl rfl rfl bc6 ?_
        refine l_pure S (p_move rfl) rfl rfl rfl ?_; clear S a; intro a S
        refine l_on S rfl rfl rfl rfl bc6 ?_
        refine l_pure S (p_gtr rfl rfl) rfl rfl rfl ?_; clear S a; intro a S
        refine l_pure S (p_pick_f rfl bc6 rfl) rfl rfl rfl ?_; clear S a; intro a S
        refine l_nil ?_
        refine e_then ?_
        refine c_cond S rfl (fun bc10 => ?_) (fun bc10 => ?_)
        · skip
          have c10 := bc10
          have c10 := of_decide_eq_true c10
          have hna : l.all rp.dig = false := rp.not_all (i := i) (by omega) (by omega)
          refine wp_seq ?_
          refine c_region ?_
          have hcon := new_ _ _ _ _ (⟨#[105, 110, 118, 97, 108, 105, 100, 32, 99, 104, 97, 114, 97, 99, 116, 101, 114, 32, 105, 110, 32, 112, 97, 114, 115, 101, 85, 105, 110, 116]⟩) H
          refine l_call S rfl rfl Tryd.func52 rfl rfl (hcon) rfl rfl rfl ?_
          rintro e w ⟨q, rfl, hH⟩
          refine ⟨_, rfl, ?_⟩; clear S a; intro a S
          clear H hcon; have H := hH; clear hH
          refine l_pure S (p_assign rfl) rfl rfl rfl ?_; clear S a; intro a S
          refine l_pure S (p_assign rfl) rfl rfl rfl ?_; clear S a; intro a S
          refine l_nil ?_
          refine e_then ?_
          refine wp_ret ?_
          refine e_then_ret ?_
          refine e_in_ret ?_
          refine e_then_ret ?_
          refine e_then_ret ?_
          refine e_in_ret ?_
          refine e_then_ret ?_
          exact r_ret2 S rfl rfl rfl ⟨H, .inr ⟨by rw [hna]; rfl, _, rfl⟩⟩
        · skip
          have c10 := bc10
          have c10 := of_decide_eq_false c10
          refine wp_skip ?_
          refine e_then ?_
          refine wp_seq ?_
          refine c_region ?_
          refine l_pure S (p_move rfl) rfl rfl rfl ?_; clear S a; intro a S
          refine l_pure S (p_mul rfl rfl rfl) rfl rfl rfl ?_; clear S a; intro a S
          refine l_pure S (p_assign rfl) rfl rfl rfl ?_; clear S a; intro a S
          refine l_nil ?_
          refine e_then ?_
          refine c_region ?_
          refine l_pure S (p_move rfl) rfl rfl rfl ?_; clear S a; intro a S
          refine l_pure S (p_move rfl) rfl rfl rfl ?_; clear S a; intro a S
          refine l_pure S (p_sub rfl rfl rfl) rfl rfl rfl ?_; clear S a; intro a S
          refine l_pure S (p_conv rfl (fun w => cv_int (Tryd.underlying5) (Tryd.underlying146) rfl)) rfl rfl rfl ?_; clear S a; intro a S
          refine l_pure S (p_add rfl rfl rfl) rfl rfl rfl ?_; clear S a; intro a S
          refine l_pure S (p_assign rfl) rfl rfl rfl ?_; clear S a; intro a S
          refine l_nil ?_
          refine e_in 1 ?_
          refine e_then ?_
          refine c_region ?_
          refine l_pure S (p_add rfl rfl (nat_add (x := i) (y := 1) (by omega))) rfl rfl rfl ?_; clear S a; intro a S
          refine l_pure S (p_move rfl) rfl rfl rfl ?_; clear S a; intro a S
          refine l_nil ?_
          refine e_then ?_
          exact ⟨⟨i + 1, _⟩, ⟨S.only ⟨rfl, rfl, rfl, rfl, rfl, rfl, trivial⟩, H, ⟨by omega, rp.all_take_succ (by omega) hd1 (by omega), rp.next_dig (by omega) hd1 (by omega) hn1⟩⟩, (show l.length - (i + 1) < l.length - i by omega)⟩
    · skip
      have c4 := bc4
      have c4 := of_decide_eq_false c4
      refine wp_exit ?_
      refine e_then_exit ?_
      refine e_then_exit ?_
      refine e_in_exit ?_
      refine e_then ?_
      refine wp_seq ?_
      refine c_region ?_
      refine l_pure S (p_move rfl) rfl rfl rfl ?_; clear S a; intro a S
      refine l_pure S (p_assign rfl) rfl rfl rfl ?_; clear S a; intro a S
      refine l_pure S (p_assign rfl) rfl rfl rfl ?_; clear S a; intro a S
      refine l_nil ?_
      refine e_then ?_
      refine wp_ret ?_
      rw [List.take_of_length_le (by omega)] at hd1 hn1
      exact r_ret2 S rfl rfl rfl ⟨H, .inl ⟨by rw [hd1, Bool.true_and]; exact decide_eq_true (rp.ne_nil (by omega)), n, rfl, fun h => hn1 (by omega)⟩⟩
set_option maxHeartbeats 1000000 in
theorem pi_ (w0 : World) (gx o c : Nat) (l : List Int) (hr : RB w0 gx o l) (hc : l.length ≤ c) (hl : l.length ≤ 100000) : Calls Tryd.prog 53 #[.slice (some ⟨gx, o, none⟩) l.length c] w0 fun e w' => HH w0.heap.size w0 w' [] ∧ (((rp.digs l).all rp.dig && decide (rp.digs l ≠ [])) = true ∧ (∃ n, e = .returned (.tuple #[.int .i64 n, .nilIface]) ∧ ((rp.digs l).length ≤ 18 → n = rp.num l)) ∨ ((rp.digs l).all rp.dig && decide (rp.digs l ≠ [])) = false ∧ ∃ q, e = .returned (.tuple #[.int .i64 0, .iface 143 (.pointer (some q))])) := by
  have H := HH.start w0
  refine c_enter (args := [.slice (some ⟨gx, o, none⟩) l.length c]) (k := 40) Tryd.func53 rfl rfl rfl (fun a S => ?_)
  refine wp_seq ?_
  refine c_region ?_
  refine l_pure S (p_assign rfl) rfl rfl rfl ?_; clear S a; intro a S
  refine l_pure S (p_assign rfl) rfl rfl rfl ?_; clear S a; intro a S
  refine l_nil ?_
  refine e_then ?_
  refine wp_seq ?_
  refine wp_seq ?_
  refine c_region ?_
  refine l_pure S (p_move rfl) rfl rfl rfl ?_; clear S a; intro a S
  refine l_pure S (p_len Tryd.underlying55 rfl) rfl rfl rfl ?_; clear S a; intro a S
  refine l_pure S (p_eql rfl rfl) rfl rfl rfl ?_; clear S a; intro a S
  refine l_nil ?_
  refine e_then ?_
  refine c_cond S rfl (fun bc2 => ?_) (fun bc2 => ?_)
  · skip
    have c2 := bc2
    have c2 := eq_of_beq c2
    refine wp_seq ?_
    refine c_region ?_
    have hcon := new_ _ _ _ _ (⟨#[101, 109, 112, 116, 121, 32, 115, 108, 105, 99, 101, 32, 103, 105, 118, 101, 110, 32, 116, 111, 32, 112, 97, 114, 115, 101, 73, 110, 116]⟩) H
    refine l_call S rfl rfl Tryd.func52 rfl rfl (hcon) rfl rfl rfl ?_
    rintro e w ⟨q, rfl, hH⟩
    refine ⟨_, rfl, ?_⟩; clear S a; intro a S
    clear H hcon; have H := hH; clear hH
    refine l_pure S (p_assign rfl) rfl rfl rfl ?_; clear S a; intro a S
    refine l_pure S (p_assign rfl) rfl rfl rfl ?_; clear S a; intro a S
    refine l_nil ?_
    refine e_then ?_
    refine wp_ret ?_
    refine e_then_ret ?_
    obtain rfl : l = [] := List.length_eq_zero_iff.1 (by omega)
    exact r_ret2 S rfl rfl rfl ⟨H, .inr ⟨by simp [rp.digs], _, rfl⟩⟩
  · skip
    have c2 := bc2
    have c2 := ne_of_beq_false c2
    refine wp_skip ?_
    refine e_then ?_
    refine wp_seq ?_
    refine c_region ?_
    refine l_pure S (p_assign rfl) rfl rfl rfl ?_; clear S a; intro a S
    refine l_nil ?_
    refine e_then ?_
    refine wp_seq ?_
    refine wp_seq ?_
    refine c_region ?_
    refine l_pure S (p_move rfl) rfl rfl rfl ?_; clear S a; intro a S
    refine l_pure S (p_indexAddr rfl rfl (fun w => ia_any Tryd.underlying55 sz5 (by omega) (by omega))) rfl rfl rfl ?_; clear S a; intro a S
    refine l_read S H (r_row (i := 0) (hr.C (by omega)) rfl (by first | rfl | rw [Int.toNat_natCast, Nat.mul_one]) (get_some 0 (by omega)) ag5 rfl) rfl rfl rfl ?_; clear S a; intro a S
    refine l_pure S (p_eql rfl rfl) rfl rfl rfl ?_; clear S a; intro a S
    refine l_pure S (p_move rfl) rfl rfl rfl ?_; clear S a; intro a S
    refine l_split (S.of 15 rfl) (fun bc5 => ?_) (fun bc5 => ?_)
    · skip
      have c5 := bc5
      have c5 := eq_of_beq c5
      refine l_off S rfl rfl rfl rfl bc5 rfl rfl ?_; clear S a; intro a S
      refine l_off S rfl rfl rfl rfl bc5 rfl rfl ?_; clear S a; intro a S
      refine l_off S rfl rfl rfl rfl bc5 rfl rfl ?_; clear S a; intro a S
      refine l_off S rfl rfl rfl rfl bc5 rfl rfl ?_; clear S a; intro a S
      refine l_pure S (p_pick_t rfl bc5 rfl) rfl rfl rfl ?_; clear S a; intro a S
      refine l_nil ?_
      refine e_then ?_
      refine c_cond (b := true) S rfl (fun _ => ?_) (fun h => by cases h)
      refine wp_seq ?_
      refine c_region ?_
      refine l_pure S (p_move rfl) rfl rfl rfl ?_; clear S a; intro a S
      refine l_pure S (p_indexAddr rfl rfl (fun w => ia_any Tryd.underlying55 sz5 (by omega) (by omega))) rfl rfl rfl ?_; clear S a; intro a S
      refine l_read S H (r_row (i := 0) (hr.C (by omega)) rfl (by first | rfl | rw [Int.toNat_natCast, Nat.mul_one]) (get_some 0 (by omega)) ag5 rfl) rfl rfl rfl ?_; clear S a; intro a S
      refine l_pure S (p_eql rfl rfl) rfl rfl rfl ?_; clear S a; intro a S
      refine l_pure S (p_assign rfl) rfl rfl rfl ?_; clear S a; intro a S
      refine l_nil ?_
      refine e_then ?_
      refine c_region ?_
      refine l_pure S (p_move rfl) rfl rfl rfl ?_; clear S a; intro a S
      refine l_pure S (p_slice rfl (o_some rfl) (fun _ _ => o_none) (fun _ _ => o_none) (fun w => sl_byte_lo (m := 1) Tryd.underlying55 sz5 rfl (by omega))) rfl rfl rfl ?_; clear S a; intro a S
      refine l_pure S (p_assign rfl) rfl rfl rfl ?_; clear S a; intro a S
      refine l_nil ?_
      refine e_then ?_
      refine wp_seq ?_
      refine c_region ?_
      refine l_pure S (p_move rfl) rfl rfl rfl ?_; clear S a; intro a S
      have hdg := rp.digs_sign (l := l) (by omega) (by omega)
      have hcon := pu_ w0 _ (c - 1) (l.drop 1) (RB.C (hr.off 1 hc) (by rw [List.length_drop]; omega)) (by rw [List.length_drop]; omega)
      refine l_call S rfl rfl Tryd.func61 rfl rfl hcon rfl rfl rfl ?_
      rintro e w ⟨hH, ⟨h1, n, rfl, hn⟩ | ⟨h1, q, rfl⟩⟩ <;> rw [← hdg] at h1
      · skip
        refine ⟨_, rfl, ?_⟩; clear S a; intro a S; clear H hcon; have H := hH; clear hH
        rw [← hdg] at hn
        have hall : (rp.digs l).all rp.dig = true := (Bool.and_eq_true_iff.1 h1).1
        refine l_pure S (p_move rfl) rfl rfl rfl ?_; clear S a; intro a S
        refine l_pure S (p_extract rfl rfl) rfl rfl rfl ?_; clear S a; intro a S
        refine l_pure S (p_extract rfl rfl) rfl rfl rfl ?_; clear S a; intro a S
        refine l_pure S (p_assign rfl) rfl rfl rfl ?_; clear S a; intro a S
        refine l_pure S (p_assign rfl) rfl rfl rfl ?_; clear S a; intro a S
        refine l_nil ?_
        refine e_then ?_
        refine wp_seq ?_
        refine wp_seq ?_
        refine c_region ?_
        refine l_pure S (p_move rfl) rfl rfl rfl ?_; clear S a; intro a S
        refine l_pure S (p_nilnilN mi49 rfl) rfl rfl rfl ?_; clear S a; intro a S
        refine l_nil ?_
        refine e_then ?_
        refine c_cond (b := false) S rfl (fun h => by cases h) (fun _ => ?_)
        refine wp_skip ?_
        refine e_then ?_
        refine wp_seq ?_
        refine wp_seq ?_
        refine c_region ?_
        refine l_pure S (p_move rfl) rfl rfl rfl ?_; clear S a; intro a S
        refine l_nil ?_
        refine e_then ?_
        refine c_cond S rfl (fun bc11 => ?_) (fun bc11 => ?_)
        · skip
          have c11 := bc11
          have c11 := eq_of_beq c11
          refine wp_seq ?_
          refine c_region ?_
          refine l_pure S (p_move rfl) rfl rfl rfl ?_; clear S a; intro a S
          refine l_pure S (p_conv rfl (fun w => cv_int (Tryd.underlying146) (Tryd.underlying2) rfl)) rfl rfl rfl ?_; clear S a; intro a S
          refine l_pure S (p_neg rfl rfl) rfl rfl rfl ?_; clear S a; intro a S
          refine l_pure S (p_assign rfl) rfl rfl rfl ?_; clear S a; intro a S
          refine l_pure S (p_assign rfl) rfl rfl rfl ?_; clear S a; intro a S
          refine l_nil ?_
          refine e_then ?_
          refine wp_ret ?_
          refine e_then_ret ?_
          exact r_ret2 S rfl rfl rfl ⟨H, .inl ⟨h1, _, rfl, fun h => rp.num_negW (by omega) hall hn h⟩⟩
        · skip
          have c11 := bc11
          have c11 := ne_of_beq_false c11
          refine wp_skip ?_
          refine e_then ?_
          refine wp_seq ?_
          refine c_region ?_
          refine l_pure S (p_move rfl) rfl rfl rfl ?_; clear S a; intro a S
          refine l_pure S (p_conv rfl (fun w => cv_int (Tryd.underlying146) (Tryd.underlying2) rfl)) rfl rfl rfl ?_; clear S a; intro a S
          refine l_pure S (p_assign rfl) rfl rfl rfl ?_; clear S a; intro a S
          refine l_pure S (p_assign rfl) rfl rfl rfl ?_; clear S a; intro a S
          refine l_nil ?_
          refine e_then ?_
          refine wp_ret ?_
          exact r_ret2 S rfl rfl rfl ⟨H, .inl ⟨h1, _, rfl, fun h => rp.num_elseW (by omega) hall hn h⟩⟩
      · skip
        refine ⟨_, rfl, ?_⟩; clear S a; intro a S; clear H hcon; have H := hH; clear hH
        refine l_pure S (p_move rfl) rfl rfl rfl ?_; clear S a; intro a S
        refine l_pure S (p_extract rfl rfl) rfl rfl rfl ?_; clear S a; intro a S
        refine l_pure S (p_extract rfl rfl) rfl rfl rfl ?_; clear S a; intro a S
        refine l_pure S (p_assign rfl) rfl rfl rfl ?_; clear S a; intro a S
        refine l_pure S (p_assign rfl) rfl rfl rfl ?_; clear S a; intro a S
        refine l_nil ?_
        refine e_then ?_
        refine wp_seq ?_
        refine wp_seq ?_
        refine c_region ?_
        refine l_pure S (p_move rfl) rfl rfl rfl ?_; clear S a; intro a S
        refine l_pure S (p_ifnilN mi49 rfl rfl) rfl rfl rfl ?_; clear S a; intro a S
        refine l_nil ?_
        refine e_then ?_
        refine c_cond (b := true) S rfl (fun _ => ?_) (fun h => by cases h)
        refine wp_seq ?_
        refine c_region ?_
        refine l_pure S (p_move rfl) rfl rfl rfl ?_; clear S a; intro a S
        refine l_pure S (p_assign rfl) rfl rfl rfl ?_; clear S a; intro a S
        refine l_pure S (p_assign rfl) rfl rfl rfl ?_; clear S a; intro a S
        refine l_nil ?_
        refine e_then ?_
        refine wp_ret ?_
        refine e_then_ret ?_
        exact r_ret2 S rfl rfl rfl ⟨H, .inr ⟨h1, _, rfl⟩⟩
    · skip
      have c5 := bc5
      have c5 := ne_of_beq_false c5
      refine l_on S rfl rfl rfl rfl bc5 ?_
      refine l_pure S (p_move rfl) rfl rfl rfl ?_; clear S a; intro a S
      refine l_on S rfl rfl rfl rfl bc5 ?_
      refine l_pure S (p_indexAddr rfl rfl (fun w => ia_any Tryd.underlying55 sz5 (by omega) (by omega))) rfl rfl rfl ?_; clear S a; intro a S
      refine l_on S rfl rfl rfl rfl bc5 ?_
      refine l_read S H (r_row (i := 0) (hr.C (by omega)) rfl (by first | rfl | rw [Int.toNat_natCast, Nat.mul_one]) (get_some 0 (by omega)) ag5 rfl) rfl rfl rfl ?_; clear S a; intro a S
      refine l_on S rfl rfl rfl rfl bc5 ?_
      refine l_pure S (p_eql rfl rfl) rfl rfl rfl ?_; clear S a; intro a S
      refine l_pure S (p_pick_f rfl bc5 rfl) rfl rfl rfl ?_; clear S a; intro a S
      refine l_nil ?_
      refine e_then ?_
      refine c_cond S rfl (fun bc15 => ?_) (fun bc15 => ?_)
      · skip
        have c15 := bc15
        have c15 := eq_of_beq c15
        refine wp_seq ?_
        refine c_region ?_
        refine l_pure S (p_move rfl) rfl rfl rfl ?_; clear S a; intro a S
        refine l_pure S (p_indexAddr rfl rfl (fun w => ia_any Tryd.underlying55 sz5 (by omega) (by omega))) rfl rfl rfl ?_; clear S a; intro a S
        refine l_read S H (r_row (i := 0) (hr.C (by omega)) rfl (by first | rfl | rw [Int.toNat_natCast, Nat.mul_one]) (get_some 0 (by omega)) ag5 rfl) rfl rfl rfl ?_; clear S a; intro a S
        refine l_pure S (p_eql rfl rfl) rfl rfl rfl ?_; clear S a; intro a S
        refine l_pure S (p_assign rfl) rfl rfl rfl ?_; clear S a; intro a S
        refine l_nil ?_
        refine e_then ?_
        refine c_region ?_
        refine l_pure S (p_move rfl) rfl rfl rfl ?_; clear S a; intro a S
        refine l_pure S (p_slice rfl (o_some rfl) (fun _ _ => o_none) (fun _ _ => o_none) (fun w => sl_byte_lo (m := 1) Tryd.underlying55 sz5 rfl (by omega))) rfl rfl rfl ?_; clear S a; intro a S
        refine l_pure S (p_assign rfl) rfl rfl rfl ?_; clear S a; intro a S
        refine l_nil ?_
        refine e_then ?_
        refine wp_seq ?_
        refine c_region ?_
        refine l_pure S (p_move rfl) rfl rfl rfl ?_; clear S a; intro a S
        have hdg := rp.digs_sign (l := l) (by omega) (by omega)
        have hcon := pu_ w0 _ (c - 1) (l.drop 1) (RB.C (hr.off 1 hc) (by rw [List.length_drop]; omega)) (by rw [List.length_drop]; omega)
        refine l_call S rfl rfl Tryd.func61 rfl rfl hcon rfl rfl rfl ?_
        rintro e w ⟨hH, ⟨h1, n, rfl, hn⟩ | ⟨h1, q, rfl⟩⟩ <;> rw [← hdg] at h1
        · skip
          refine ⟨_, rfl, ?_⟩; clear S a; intro a S; clear H hcon; have H := hH; clear hH
          rw [← hdg] at hn
          have hall : (rp.digs l).all rp.dig = true := (Bool.and_eq_true_iff.1 h1).1
          refine l_pure S (p_move rfl) rfl rfl rfl ?_; clear S a; intro a S
          refine l_pure S (p_extract rfl rfl) rfl rfl rfl ?_; clear S a; intro a S
          refine l_pure S (p_extract rfl rfl) rfl rfl rfl ?_; clear S a; intro a S
          refine l_pure S (p_assign rfl) rfl rfl rfl ?_; clear S a; intro a S
          refine l_pure S (p_assign rfl) rfl rfl rfl ?_; clear S a; intro a S
          refine l_nil ?_
          refine e_then ?_
          refine wp_seq ?_
          refine wp_seq ?_
          refine c_region ?_
          refine l_pure S (p_move rfl) rfl rfl rfl ?_; clear S a; intro a S
          refine l_pure S (p_nilnilN mi49 rfl) rfl rfl rfl ?_; clear S a; intro a S
          refine l_nil ?_
          refine e_then ?_
          refine c_cond (b := false) S rfl (fun h => by cases h) (fun _ => ?_)
          refine wp_skip ?_
          refine e_then ?_
          refine wp_seq ?_
          refine wp_seq ?_
          refine c_region ?_
          refine l_pure S (p_move rfl) rfl rfl rfl ?_; clear S a; intro a S
          refine l_nil ?_
          refine e_then ?_
          refine c_cond S rfl (fun bc19 => ?_) (fun bc19 => ?_)
          · skip
            have c19 := bc19
            have c19 := eq_of_beq c19
            refine wp_seq ?_
            refine c_region ?_
            refine l_pure S (p_move rfl) rfl rfl rfl ?_; clear S a; intro a S
            refine l_pure S (p_conv rfl (fun w => cv_int (Tryd.underlying146) (Tryd.underlying2) rfl)) rfl rfl rfl ?_; clear S a; intro a S
            refine l_pure S (p_neg rfl rfl) rfl rfl rfl ?_; clear S a; intro a S
            refine l_pure S (p_assign rfl) rfl rfl rfl ?_; clear S a; intro a S
            refine l_pure S (p_assign rfl) rfl rfl rfl ?_; clear S a; intro a S
            refine l_nil ?_
            refine e_then ?_
            refine wp_ret ?_
            refine e_then_ret ?_
            exact r_ret2 S rfl rfl rfl ⟨H, .inl ⟨h1, _, rfl, fun h => rp.num_negW (by omega) hall hn h⟩⟩
          · skip
            have c19 := bc19
            have c19 := ne_of_beq_false c19
            refine wp_skip ?_
            refine e_then ?_
            refine wp_seq ?_
            refine c_region ?_
            refine l_pure S (p_move rfl) rfl rfl rfl ?_; clear S a; intro a S
            refine l_pure S (p_conv rfl (fun w => cv_int (Tryd.underlying146) (Tryd.underlying2) rfl)) rfl rfl rfl ?_; clear S a; intro a S
            refine l_pure S (p_assign rfl) rfl rfl rfl ?_; clear S a; intro a S
            refine l_pure S (p_assign rfl) rfl rfl rfl ?_; clear S a; intro a S
            refine l_nil ?_
            refine e_then ?_
            refine wp_ret ?_
            exact r_ret2 S rfl rfl rfl ⟨H, .inl ⟨h1, _, rfl, fun h => rp.num_elseW (by omega) hall hn h⟩⟩
        · skip
          refine ⟨_, rfl, ?_⟩; clear S a; intro a S; clear H hcon; have H := hH; clear hH
          refine l_pure S (p_move rfl) rfl rfl rfl ?_; clear S a; intro a S
          refine l_pure S (p_extract rfl rfl) rfl rfl rfl ?_; clear S a; intro a S
          refine l_pure S (p_extract rfl rfl) rfl rfl rfl ?_; clear S a; intro a S
          refine l_pure S (p_assign rfl) rfl rfl rfl ?_; clear S a; intro a S
          refine l_pure S (p_assign rfl) rfl rfl rfl ?_; clear S a; intro a S
          refine l_nil ?_
          refine e_then ?_
          refine wp_seq ?_
          refine wp_seq ?_
          refine c_region ?_
          refine l_pure S (p_move rfl) rfl rfl rfl ?_; clear S a; intro a S
          refine l_pure S (p_ifnilN mi49 rfl rfl) rfl rfl rfl ?_; clear S a; intro a S
          refine l_nil ?_
          refine e_then ?_
          refine c_cond (b := true) S rfl (fun _ => ?_) (fun h => by cases h)
          refine wp_seq ?_
          refine c_region ?_
          refine l_pure S (p_move rfl) rfl rfl rfl ?_; clear S a; intro a S
          refine l_pure S (p_assign rfl) rfl rfl rfl ?_; clear S a; intro a S
          refine l_pure S (p_assign rfl) rfl rfl rfl ?_; clear S a; intro a S
          refine l_nil ?_
          refine e_then ?_
          refine wp_ret ?_
          refine e_then_ret ?_
          exact r_ret2 S rfl rfl rfl ⟨H, .inr ⟨h1, _, rfl⟩⟩
      · skip
        have c15 := bc15
        have c15 := ne_of_beq_false c15
        refine wp_skip ?_
        refine e_then ?_
        refine wp_seq ?_
        refine c_region ?_
        refine l_pure S (p_move rfl) rfl rfl rfl ?_; clear S a; intro a S
        have hdg := rp.digs_no (l := l) (by omega)
        have hcon := pu_ w0 _ c l (hr.C (by omega)) hl
        refine l_call S rfl rfl Tryd.func61 rfl rfl hcon rfl rfl rfl ?_
        rintro e w ⟨hH, ⟨h1, n, rfl, hn⟩ | ⟨h1, q, rfl⟩⟩ <;> rw [← hdg] at h1
        · skip
          refine ⟨_, rfl, ?_⟩; clear S a; intro a S; clear H hcon; have H := hH; clear hH
          rw [← hdg] at hn
          have hall : (rp.digs l).all rp.dig = true := (Bool.and_eq_true_iff.1 h1).1
          refine l_pure S (p_move rfl) rfl rfl rfl ?_; clear S a; intro a S
          refine l_pure S (p_extract rfl rfl) rfl rfl rfl ?_; clear S a; intro a S
          refine l_pure S (p_extract rfl rfl) rfl rfl rfl ?_; clear S a; intro a S
          refine l_pure S (p_assign rfl) rfl rfl rfl ?_; clear S a; intro a S
          refine l_pure S (p_assign rfl) rfl rfl rfl ?_; clear S a; intro a S
          refine l_nil ?_
          refine e_then ?_
          refine wp_seq ?_
          refine wp_seq ?_
          refine c_region ?_
          refine l_pure S (p_move rfl) rfl rfl rfl ?_; clear S a; intro a S
          refine l_pure S (p_nilnilN mi49 rfl) rfl rfl rfl ?_; clear S a; intro a S
          refine l_nil ?_
          refine e_then ?_
          refine c_cond (b := false) S rfl (fun h => by cases h) (fun _ => ?_)
          refine wp_skip ?_
          refine e_then ?_
          refine wp_seq ?_
          refine wp_seq ?_
          refine c_region ?_
          refine l_pure S (p_move rfl) rfl rfl rfl ?_; clear S a; intro a S
          refine l_nil ?_
          refine e_then ?_
          refine c_cond (b := false) S rfl (fun h => by cases h) (fun _ => ?_)
          refine wp_skip ?_
          refine e_then ?_
          refine wp_seq ?_
          refine c_region ?_
          refine l_pure S (p_move rfl) rfl rfl rfl ?_; clear S a; intro a S
          refine l_pure S (p_conv rfl (fun w => cv_int (Tryd.underlying146) (Tryd.underlying2) rfl)) rfl rfl rfl ?_; clear S a; intro a S
          refine l_pure S (p_assign rfl) rfl rfl rfl ?_; clear S a; intro a S
          refine l_pure S (p_assign rfl) rfl rfl rfl ?_; clear S a; intro a S
          refine l_nil ?_
          refine e_then ?_
          refine wp_ret ?_
          exact r_ret2 S rfl rfl rfl ⟨H, .inl ⟨h1, _, rfl, fun h => rp.num_elseW (by omega) hall hn h⟩⟩
        · skip
          refine ⟨_, rfl, ?_⟩; clear S a; intro a S; clear H hcon; have H := hH; clear hH
          refine l_pure S (p_move rfl) rfl rfl rfl ?_; clear S a; intro a S
          refine l_pure S (p_extract rfl rfl) rfl rfl rfl ?_; clear S a; intro a S
          refine l_pure S (p_extract rfl rfl) rfl rfl rfl ?_; clear S a; intro a S
          refine l_pure S (p_assign rfl) rfl rfl rfl ?_; clear S a; intro a S
          refine l_pure S (p_assign rfl) rfl rfl rfl ?_; clear S a; intro a S
          refine l_nil ?_
          refine e_then ?_
          refine wp_seq ?_
          refine wp_seq ?_
          refine c_region ?_
          refine l_pure S (p_move rfl) rfl rfl rfl ?_; clear S a; intro a S
          refine l_pure S (p_ifnilN mi49 rfl rfl) rfl rfl rfl ?_; clear S a; intro a S
          refine l_nil ?_
          refine e_then ?_
          refine c_cond (b := true) S rfl (fun _ => ?_) (fun h => by cases h)
          refine wp_seq ?_
          refine c_region ?_
          refine l_pure S (p_move rfl) rfl rfl rfl ?_; clear S a; intro a S
          refine l_pure S (p_assign rfl) rfl rfl rfl ?_; clear S a; intro a S
          refine l_pure S (p_assign rfl) rfl rfl rfl ?_; clear S a; intro a S
          refine l_nil ?_
          refine e_then ?_
          refine wp_ret ?_
          refine e_then_ret ?_
          exact r_ret2 S rfl rfl rfl ⟨H, .inr ⟨h1, _, rfl⟩⟩
end re
end Go.Proofs.YtnmelglnkefjfaaDoor.rr
