/- Exactly so many bytes, of a buffered reader. -/
import Derived.Test.YtnmelglnkefjfaaDoorRb1
namespace Go.Proofs.YtnmelglnkefjfaaDoor.rr
open Go.RowKit Go.Proofs.HHW Go.Proofs.YtnmelglnkefjfaaDoorW.PrintWords
set_option linter.unusedVariables false
set_option linter.unusedSimpArgs false
namespace rc
theorem ag49 : aggB Tryd.prog 49 = some false := by kernel_rfl
theorem sz5 : szB Tryd.prog 5 = some 1 := by kernel_rfl
theorem mi49 : Tryd.prog.underlying 49 = some (.interface (Tryd.prog.methodsAt 49)) := by kernel_rfl
theorem meRd (w : World) (ad : Addr) : (method (Tryd.prog.types.size + Made.depth) 102 (.pointer (some ad)) "Read").run Tryd.prog w = .ok (125, .pointer (some ad)) w := by kernel_rfl
theorem nilRd (w : World) (ad : Addr) : (nilAhead (Tryd.prog.types.size + Made.depth) 102 (.pointer (some ad)) "Read").run Tryd.prog w = .ok (some false) w := by kernel_rfl
theorem pc_cmpE : (Tryd.prog.info? 143).map (fun i => i.comparable) = some true := by kernel_rfl

set_option maxHeartbeats 2000000 in
theorem ral_ (wb w0 : World) (L0 : dc.Bk) (g gb gr : Nat) (cs : Array Value) (r : Nat) (vis : List Int) (s : ByteArray) (Az : Option Addr) (zs : List Int) (cz ap : Nat) (lb lr : Int) (gm o n cp : Nat) (cm : Array Value) (f : Nat × Nat) (ae : Addr) (hE : wb.cell? ⟨0, 0, none⟩ = some (.iface 143 (.pointer (some ae)))) (hlt : 0 < wb.heap.size) (qe : Addr) (hU : wb.cell? ⟨1, 0, none⟩ = some (.iface 143 (.pointer (some qe)))) (hltU : 1 < wb.heap.size) (H : HH wb.heap.size wb w0 ((g, .cells #[.slice (some ⟨gb, 0, none⟩) 4096 4096, .iface 42 (.pointer (some ⟨gr, 0, none⟩)), .int .i64 (r : Int), .int .i64 ((r + vis.length : Nat) : Int), .nilIface, .int .i64 lb, .int .i64 lr] 153 (0, 0)) :: (gb, .cells cs 5 (0, 0)) :: (gr, .cells #[.string s, .slice Az zs.length cz, .int .i64 (ap : Int), .bool false] 86 (0, 0)) :: (gm, .cells cm 5 f) :: L0)) (hcs : cs.size = 4096) (hrow : bf.Row cs r vis) (hw : r + vis.length ≤ 4096) (hs : s.size = 0) (hth : Thaw cm f) (ho : o + n ≤ cm.size) (hn0 : 0 < n) (hcp : n ≤ cp) (hn : n ≤ 10000000) : Calls Tryd.prog 73 #[.iface 102 (.pointer (some ⟨g, 0, none⟩)), .slice (some ⟨gm, o, none⟩) n cp, .int .i64 (n : Int)] w0 fun e w' => (n ≤ vis.length ∧ e = .returned (.tuple #[.int .i64 (n : Int), .nilIface]) ∧ ∃ (r' : Nat) (lb' lr' : Int), bf.Row cs r' (vis.drop n) ∧ r' + (vis.drop n).length ≤ 4096 ∧ HH wb.heap.size wb w' ((g, .cells #[.slice (some ⟨gb, 0, none⟩) 4096 4096, .iface 42 (.pointer (some ⟨gr, 0, none⟩)), .int .i64 (r' : Int), .int .i64 ((r' + (vis.drop n).length : Nat) : Int), .nilIface, .int .i64 lb', .int .i64 lr'] 153 (0, 0)) :: (gb, .cells cs 5 (0, 0)) :: (gr, .cells #[.string s, .slice Az zs.length cz, .int .i64 (ap : Int), .bool false] 86 (0, 0)) :: (gm, .cells (spl cm o ((vis.take n).map (Value.int .u8))) 5 f) :: L0)) ∨ (vis.length < n ∧ ∃ x q, e = .returned (.tuple #[x, .iface 143 (.pointer (some q))]) ∧ ∃ (r' : Nat) (c' : Array Value) (lb' lr' : Int), r' ≤ 4096 ∧ c'.size = cm.size ∧ HH wb.heap.size wb w' ((g, .cells #[.slice (some ⟨gb, 0, none⟩) 4096 4096, .iface 42 (.pointer (some ⟨gr, 0, none⟩)), .int .i64 (r' : Int), .int .i64 ((r' + ([] : List Int).length : Nat) : Int), .nilIface, .int .i64 lb', .int .i64 lr'] 153 (0, 0)) :: (gb, .cells cs 5 (0, 0)) :: (gr, .cells #[.string s, .slice Az zs.length cz, .int .i64 (ap : Int), .bool false] 86 (0, 0)) :: (gm, .cells c' 5 f) :: L0)) := by
  refine c_enter (args := [.iface 102 (.pointer (some ⟨g, 0, none⟩)), .slice (some ⟨gm, o, none⟩) n cp, .int .i64 (n : Int)]) (k := 43) Tryd.func73 rfl rfl rfl (fun a S => ?_)
  refine wp_seq ?_
  refine c_region ?_
  refine l_pure S (p_assign rfl) rfl rfl rfl ?_; clear S a; intro a S
  refine l_pure S (p_assign rfl) rfl rfl rfl ?_; clear S a; intro a S
  refine l_nil ?_
  refine e_then ?_
  refine wp_seq ?_
  refine wp_seq ?_
  refine c_region ?_
  refine l_pure S (p_move rfl) rfl rfl rfl ?_; clear S a; intro a S
  refine l_pure S (p_len Tryd.underlying55 rfl) rfl rfl rfl ?_; clear S a; intro a S
  refine l_pure S (p_move rfl) rfl rfl rfl ?_; clear S a; intro a S
  refine l_pure S (p_lss rfl rfl) rfl rfl rfl ?_; clear S a; intro a S
  refine l_nil ?_
  refine e_then ?_
  refine c_cond S rfl (fun c2 => by have c2 := of_decide_eq_true c2; exfalso; omega) (fun c2 => ?_)
  have c2 := of_decide_eq_false c2
  refine wp_skip ?_
  refine e_then ?_
  refine wp_seq ?_
  refine wp_block ?_
  refine c_loop (σ := Nat × Nat × List Int × Value × Array Value × Int × Int × Nat) (fun s_ a w => match s_ with | ⟨nn, r2, v2, er, c2, lb2, lr2, mu⟩ => SL a 46 [] [(0, .iface 102 (.pointer (some ⟨g, 0, none⟩))), (1, .slice (some ⟨gm, o, none⟩) n cp), (2, .int .i64 (n : Int)), (6, .int .i64 (nn : Int)), (7, er)] ∧ HH (wb.heap.size) wb w ((g, .cells #[.slice (some ⟨gb, 0, none⟩) 4096 4096, .iface 42 (.pointer (some ⟨gr, 0, none⟩)), .int .i64 (r2 : Int), .int .i64 ((r2 + v2.length : Nat) : Int), .nilIface, .int .i64 lb2, .int .i64 lr2] 153 (0, 0)) :: (gb, .cells cs 5 (0, 0)) :: (gr, .cells #[.string s, .slice Az zs.length cz, .int .i64 (ap : Int), .bool false] 86 (0, 0)) :: (gm, .cells c2 5 f) :: L0) ∧ (c2.size = cm.size ∧ Thaw c2 f ∧ bf.Row cs r2 v2 ∧ r2 + v2.length ≤ 4096 ∧ ((nn = 0 ∧ er = .nilIface ∧ v2 = vis ∧ c2 = cm ∧ mu = 2) ∨ (nn = n ∧ er = .nilIface ∧ n ≤ vis.length ∧ v2 = vis.drop n ∧ c2 = spl cm o ((vis.take n).map (Value.int .u8))) ∨ (er = .nilIface ∧ 0 < nn ∧ nn < n ∧ v2 = [] ∧ vis.length < n ∧ mu = 1) ∨ (er = .iface 143 (.pointer (some ae)) ∧ nn < n ∧ v2 = [] ∧ vis.length < n)))) (fun s_ => match s_ with | ⟨nn, r2, v2, er, c2, lb2, lr2, mu⟩ => mu) ⟨0, r, vis, .nilIface, cm, lb, lr, 2⟩ ⟨S.only ⟨rfl, rfl, rfl, rfl, rfl, trivial⟩, H, ⟨rfl, hth, hrow, hw, .inl ⟨rfl, rfl, rfl, rfl, rfl⟩⟩⟩ ?_
  clear S a H; rintro ⟨nn, r2, v2, er, c2, lb2, lr2, mu⟩ a w ⟨S, H, hinv⟩
  obtain ⟨hcz, hth2, hr2, hw2, hcase⟩ := hinv
  rcases hcase with ⟨hnn, rfl, hv, hc, hmu⟩ | ⟨hnn, rfl, hnv, hv, hc⟩ | ⟨rfl, hnn0, hnn, hv, hvl, hmu⟩ | ⟨rfl, hnn, hv, hvl⟩
  · skip
    refine wp_seq ?_
    refine wp_seq ?_
    refine c_region ?_
    refine l_pure S (p_move rfl) rfl rfl rfl ?_; clear S a; intro a S
    refine l_pure S (p_move rfl) rfl rfl rfl ?_; clear S a; intro a S
    refine l_pure S (p_lss rfl rfl) rfl rfl rfl ?_; clear S a; intro a S
    refine l_pure S (p_move rfl) rfl rfl rfl ?_; clear S a; intro a S
    refine l_on S rfl rfl rfl rfl (show decide ((nn : Int) < (n : Int)) = true from decide_eq_true (by omega)) ?_
    refine l_pure S (p_move rfl) rfl rfl rfl ?_; clear S a; intro a S
    refine l_on S rfl rfl rfl rfl (show decide ((nn : Int) < (n : Int)) = true from decide_eq_true (by omega)) ?_
    refine l_pure S (p_nilnil mi49 rfl) rfl rfl rfl ?_; clear S a; intro a S
    refine l_pure S (p_pick_t rfl (show decide ((nn : Int) < (n : Int)) = true from decide_eq_true (by omega)) rfl) rfl rfl rfl ?_; clear S a; intro a S
    refine l_nil ?_
    refine e_then ?_
    refine c_cond (b := true) S rfl (fun _ => ?_) (fun h => by cases h)
    refine wp_skip ?_
    refine e_then ?_
    refine wp_block ?_
    refine wp_seq ?_
    refine c_region ?_
    refine l_pure S (p_assign rfl) rfl rfl rfl ?_; clear S a; intro a S
    refine l_nil ?_
    refine e_then ?_
    refine wp_seq ?_
    refine d_start (id := 5) [7] 13 #[false, false, false, false, false, false, false, false, false, false, false, false, false] H rfl rfl rfl (fun w H => ?_)
    refine d_pure (i := 0) #[true, false, false, false, false, false, false, false, false, false, false, false, false] S rfl (p_move rfl) (wanted_none rfl) rfl rfl (by kernel_rfl) (fun _ _ _ h => h) ?_; clear S a; intro a S
    refine d_pure (i := 1) #[true, true, false, false, false, false, false, false, false, false, false, false, false] S rfl (p_move rfl) (wanted_none rfl) rfl rfl (by kernel_rfl) (fun _ _ _ h => h) ?_; clear S a; intro a S
    refine d_pure (i := 2) #[true, true, true, false, false, false, false, false, false, false, false, false, false] S rfl (p_move rfl) (wanted_none rfl) rfl rfl (by kernel_rfl) (fun _ _ _ h => h) ?_; clear S a; intro a S
    refine d_pure (i := 3) #[true, true, true, true, false, false, false, false, false, false, false, false, false] S rfl (p_slice rfl (o_some rfl) (fun _ _ => o_none) (fun _ _ => o_none) (fun w => sl_lo (m := nn) Tryd.underlying55 sz5 rfl (by omega))) (wanted_none rfl) rfl rfl (by kernel_rfl) (fun _ _ _ h => h) ?_; clear S a; intro a S
    rw [cutAt_off, show offAt o cp nn = o + nn by unfold offAt; rw [if_neg (by omega)]] at S
    refine d_pure (i := 4) #[true, true, true, true, true, false, false, false, false, false, false, false, false] S rfl (p_func (xs := [.tmp 22]) (ys := []) rfl rfl) (wanted_none rfl) rfl rfl (by kernel_rfl) (fun _ _ _ h => h) ?_; clear S a; intro a S
    refine d_pure (i := 5) #[true, true, true, true, true, true, false, false, false, false, false, false, false] S rfl (p_nilCheckM rfl (fun w => nilRd w _)) (wanted_none rfl) rfl rfl (by kernel_rfl) (fun _ _ _ h => h) ?_; clear S a; intro a S
    refine d_pure (i := 6) #[true, true, true, true, true, true, true, false, false, false, false, false, false] S rfl (p_move rfl) (wanted_none rfl) rfl rfl (by kernel_rfl) (fun _ _ _ h => h) ?_; clear S a; intro a S
    have hcon := rb.bread_ wb _ L0 g gb gr cs r2 v2 s Az zs cz ap lb2 lr2 gm (o + nn) (n - nn) (cp - nn) c2 f ae hE hlt H hcs hr2 hw2 hs hth2 (by omega) (by omega) (by omega) (by omega)
    refine d_invoke_last (i := 7) #[true, true, true, true, true, true, true, true, false, false, false, false, false] S rfl rfl rfl rfl (meRd _ _) Tryd.func125 rfl rfl hcon (wanted_none rfl) rfl rfl (by kernel_rfl) rfl ?_; clear hcon
    rintro e w (⟨hv0, rfl, lb3, hr3, hw3, hH⟩ | ⟨hv0, rfl, r3, hr3, hH⟩)
    · skip
      refine ⟨_, rfl, ?_⟩; clear S a; intro a S; clear H; have H := hH; clear hH
      refine d_pure (i := 8) #[true, true, true, true, true, true, true, true, true, false, false, false, false] S rfl (p_move rfl) (wanted_none rfl) rfl rfl (by kernel_rfl) (fun _ _ _ h => h) ?_; clear S a; intro a S
      refine d_pure (i := 9) #[true, true, true, true, true, true, true, true, true, true, false, false, false] S rfl (p_extract rfl rfl) (wanted_none rfl) rfl rfl (by kernel_rfl) (fun _ _ _ h => h) ?_; clear S a; intro a S
      refine d_pure (i := 10) #[true, true, true, true, true, true, true, true, true, true, true, false, false] S rfl (p_extract rfl rfl) (wanted_none rfl) rfl rfl (by kernel_rfl) (fun _ _ _ h => h) ?_; clear S a; intro a S
      refine d_pure (i := 11) #[true, true, true, true, true, true, true, true, true, true, true, true, false] S rfl (p_assign rfl) (wanted_none rfl) rfl rfl (by kernel_rfl) (fun _ _ _ h => h) ?_; clear S a; intro a S
      refine d_pure (i := 12) #[true, true, true, true, true, true, true, true, true, true, true, true, true] S rfl (p_assign rfl) (wanted_none rfl) rfl rfl (by kernel_rfl) (fun _ _ _ h => h) ?_; clear S a; intro a S
      refine d_done (by kernel_rfl) ?_
      refine e_then ?_
      refine c_region ?_
      refine l_pure S (p_move rfl) rfl rfl rfl ?_; clear S a; intro a S
      refine l_pure S (p_move rfl) rfl rfl rfl ?_; clear S a; intro a S
      refine l_pure S (p_add rfl rfl (nat_add (x := nn) (y := (min v2.length (n - nn))) (by omega))) rfl rfl rfl ?_; clear S a; intro a S
      refine l_pure S (p_assign rfl) rfl rfl rfl ?_; clear S a; intro a S
      refine l_nil ?_
      refine e_in 1 ?_
      refine e_then ?_
      exact ⟨⟨nn + min v2.length (n - nn), r2 + min v2.length (n - nn), v2.drop (min v2.length (n - nn)), .nilIface, _, lb3, -1, if n ≤ vis.length then 0 else 1⟩, ⟨S.only ⟨rfl, rfl, rfl, rfl, rfl, trivial⟩, H, ⟨by rw [spl_size]; exact hcz, (fun j hj => hth2 j (by rw [spl_size] at hj; exact hj)), hr3, hw3, rp.ral_case hnn hv hc hv0 hn0⟩⟩, (show (if n ≤ vis.length then 0 else 1) < mu by split <;> omega)⟩
    · skip
      refine ⟨_, rfl, ?_⟩; clear S a; intro a S; clear H; have H := hH; clear hH
      refine d_pure (i := 8) #[true, true, true, true, true, true, true, true, true, false, false, false, false] S rfl (p_move rfl) (wanted_none rfl) rfl rfl (by kernel_rfl) (fun _ _ _ h => h) ?_; clear S a; intro a S
      refine d_pure (i := 9) #[true, true, true, true, true, true, true, true, true, true, false, false, false] S rfl (p_extract rfl rfl) (wanted_none rfl) rfl rfl (by kernel_rfl) (fun _ _ _ h => h) ?_; clear S a; intro a S
      refine d_pure (i := 10) #[true, true, true, true, true, true, true, true, true, true, true, false, false] S rfl (p_extract rfl rfl) (wanted_none rfl) rfl rfl (by kernel_rfl) (fun _ _ _ h => h) ?_; clear S a; intro a S
      refine d_pure (i := 11) #[true, true, true, true, true, true, true, true, true, true, true, true, false] S rfl (p_assign rfl) (wanted_none rfl) rfl rfl (by kernel_rfl) (fun _ _ _ h => h) ?_; clear S a; intro a S
      refine d_pure (i := 12) #[true, true, true, true, true, true, true, true, true, true, true, true, true] S rfl (p_assign rfl) (wanted_none rfl) rfl rfl (by kernel_rfl) (fun _ _ _ h => h) ?_; clear S a; intro a S
      refine d_done (by kernel_rfl) ?_
      refine e_then ?_
      refine c_region ?_
      refine l_pure S (p_move rfl) rfl rfl rfl ?_; clear S a; intro a S
      refine l_pure S (p_move rfl) rfl rfl rfl ?_; clear S a; intro a S
      refine l_pure S (p_add (r := (nn : Int)) rfl rfl (by rw [Int.add_zero]; exact IntWalk.i64_in _ (by omega))) rfl rfl rfl ?_; clear S a; intro a S
      refine l_pure S (p_assign rfl) rfl rfl rfl ?_; clear S a; intro a S
      refine l_nil ?_
      refine e_in 1 ?_
      refine e_then ?_
      exact ⟨⟨nn, r3, [], .iface 143 (.pointer (some ae)), c2, _, _, 0⟩, ⟨S.only ⟨rfl, rfl, rfl, rfl, rfl, trivial⟩, H, ⟨hcz, hth2, (fun i v h => by simp at h), by simpa using hr3, .inr (.inr (.inr ⟨rfl, by omega, rfl, by rw [← hv, hv0]; simpa using hn0⟩))⟩⟩, (show 0 < mu by omega)⟩
  · skip
    refine wp_seq ?_
    refine wp_seq ?_
    refine c_region ?_
    refine l_pure S (p_move rfl) rfl rfl rfl ?_; clear S a; intro a S
    refine l_pure S (p_move rfl) rfl rfl rfl ?_; clear S a; intro a S
    refine l_pure S (p_lss rfl rfl) rfl rfl rfl ?_; clear S a; intro a S
    refine l_pure S (p_move rfl) rfl rfl rfl ?_; clear S a; intro a S
    refine l_off S rfl rfl rfl rfl (show decide ((nn : Int) < (n : Int)) = false from decide_eq_false (by omega)) rfl rfl ?_; clear S a; intro a S
    refine l_off S rfl rfl rfl rfl (show decide ((nn : Int) < (n : Int)) = false from decide_eq_false (by omega)) rfl rfl ?_; clear S a; intro a S
    refine l_pure S (p_pick_f rfl (show decide ((nn : Int) < (n : Int)) = false from decide_eq_false (by omega)) rfl) rfl rfl rfl ?_; clear S a; intro a S
    refine l_nil ?_
    refine e_then ?_
    refine c_cond (b := false) S rfl (fun h => by cases h) (fun _ => ?_)
    refine wp_exit ?_
    refine e_then_exit ?_
    refine e_then_exit ?_
    refine e_in_exit ?_
    refine e_then ?_
    refine wp_seq ?_
    refine wp_seq ?_
    refine c_region ?_
    refine l_pure S (p_move rfl) rfl rfl rfl ?_; clear S a; intro a S
    refine l_pure S (p_move rfl) rfl rfl rfl ?_; clear S a; intro a S
    refine l_pure S (p_geq rfl rfl) rfl rfl rfl ?_; clear S a; intro a S
    refine l_nil ?_
    refine e_then ?_
    refine c_cond S rfl (fun _ => ?_) (fun h => by rw [(show decide ((nn : Int) ≥ (n : Int)) = true from decide_eq_true (by omega))] at h; cases h)
    refine c_region ?_
    refine l_pure S (p_assign rfl) rfl rfl rfl ?_; clear S a; intro a S
    refine l_nil ?_
    refine e_then ?_
    refine wp_ret ?_
    subst hnn hv hc
    exact r_ret2 S rfl rfl rfl (.inl ⟨hnv, rfl, _, _, _, hr2, hw2, H⟩)
  · skip
    refine wp_seq ?_
    refine wp_seq ?_
    refine c_region ?_
    refine l_pure S (p_move rfl) rfl rfl rfl ?_; clear S a; intro a S
    refine l_pure S (p_move rfl) rfl rfl rfl ?_; clear S a; intro a S
    refine l_pure S (p_lss rfl rfl) rfl rfl rfl ?_; clear S a; intro a S
    refine l_pure S (p_move rfl) rfl rfl rfl ?_; clear S a; intro a S
    refine l_on S rfl rfl rfl rfl (show decide ((nn : Int) < (n : Int)) = true from decide_eq_true (by omega)) ?_
    refine l_pure S (p_move rfl) rfl rfl rfl ?_; clear S a; intro a S
    refine l_on S rfl rfl rfl rfl (show decide ((nn : Int) < (n : Int)) = true from decide_eq_true (by omega)) ?_
    refine l_pure S (p_nilnil mi49 rfl) rfl rfl rfl ?_; clear S a; intro a S
    refine l_pure S (p_pick_t rfl (show decide ((nn : Int) < (n : Int)) = true from decide_eq_true (by omega)) rfl) rfl rfl rfl ?_; clear S a; intro a S
    refine l_nil ?_
    refine e_then ?_
    refine c_cond (b := true) S rfl (fun _ => ?_) (fun h => by cases h)
    refine wp_skip ?_
    refine e_then ?_
    refine wp_block ?_
    refine wp_seq ?_
    refine c_region ?_
    refine l_pure S (p_assign rfl) rfl rfl rfl ?_; clear S a; intro a S
    refine l_nil ?_
    refine e_then ?_
    refine wp_seq ?_
    refine d_start (id := 5) [7] 13 #[false, false, false, false, false, false, false, false, false, false, false, false, false] H rfl rfl rfl (fun w H => ?_)
    refine d_pure (i := 0) #[true, false, false, false, false, false, false, false, false, false, false, false, false] S rfl (p_move rfl) (wanted_none rfl) rfl rfl (by kernel_rfl) (fun _ _ _ h => h) ?_; clear S a; intro a S
    refine d_pure (i := 1) #[true, true, false, false, false, false, false, false, false, false, false, false, false] S rfl (p_move rfl) (wanted_none rfl) rfl rfl (by kernel_rfl) (fun _ _ _ h => h) ?_; clear S a; intro a S
    refine d_pure (i := 2) #[true, true, true, false, false, false, false, false, false, false, false, false, false] S rfl (p_move rfl) (wanted_none rfl) rfl rfl (by kernel_rfl) (fun _ _ _ h => h) ?_; clear S a; intro a S
    refine d_pure (i := 3) #[true, true, true, true, false, false, false, false, false, false, false, false, false] S rfl (p_slice rfl (o_some rfl) (fun _ _ => o_none) (fun _ _ => o_none) (fun w => sl_lo (m := nn) Tryd.underlying55 sz5 rfl (by omega))) (wanted_none rfl) rfl rfl (by kernel_rfl) (fun _ _ _ h => h) ?_; clear S a; intro a S
    rw [cutAt_off, show offAt o cp nn = o + nn by unfold offAt; rw [if_neg (by omega)]] at S
    refine d_pure (i := 4) #[true, true, true, true, true, false, false, false, false, false, false, false, false] S rfl (p_func (xs := [.tmp 22]) (ys := []) rfl rfl) (wanted_none rfl) rfl rfl (by kernel_rfl) (fun _ _ _ h => h) ?_; clear S a; intro a S
    refine d_pure (i := 5) #[true, true, true, true, true, true, false, false, false, false, false, false, false] S rfl (p_nilCheckM rfl (fun w => nilRd w _)) (wanted_none rfl) rfl rfl (by kernel_rfl) (fun _ _ _ h => h) ?_; clear S a; intro a S
    refine d_pure (i := 6) #[true, true, true, true, true, true, true, false, false, false, false, false, false] S rfl (p_move rfl) (wanted_none rfl) rfl rfl (by kernel_rfl) (fun _ _ _ h => h) ?_; clear S a; intro a S
    have hcon := rb.bread_ wb _ L0 g gb gr cs r2 v2 s Az zs cz ap lb2 lr2 gm (o + nn) (n - nn) (cp - nn) c2 f ae hE hlt H hcs hr2 hw2 hs hth2 (by omega) (by omega) (by omega) (by omega)
    refine d_invoke_last (i := 7) #[true, true, true, true, true, true, true, true, false, false, false, false, false] S rfl rfl rfl rfl (meRd _ _) Tryd.func125 rfl rfl hcon (wanted_none rfl) rfl rfl (by kernel_rfl) rfl ?_; clear hcon
    rintro e w (⟨hv0, rfl, lb3, hr3, hw3, hH⟩ | ⟨hv0, rfl, r3, hr3, hH⟩)
    · skip
      exfalso; rw [hv] at hv0; simp at hv0
    · skip
      refine ⟨_, rfl, ?_⟩; clear S a; intro a S; clear H; have H := hH; clear hH
      refine d_pure (i := 8) #[true, true, true, true, true, true, true, true, true, false, false, false, false] S rfl (p_move rfl) (wanted_none rfl) rfl rfl (by kernel_rfl) (fun _ _ _ h => h) ?_; clear S a; intro a S
      refine d_pure (i := 9) #[true, true, true, true, true, true, true, true, true, true, false, false, false] S rfl (p_extract rfl rfl) (wanted_none rfl) rfl rfl (by kernel_rfl) (fun _ _ _ h => h) ?_; clear S a; intro a S
      refine d_pure (i := 10) #[true, true, true, true, true, true, true, true, true, true, true, false, false] S rfl (p_extract rfl rfl) (wanted_none rfl) rfl rfl (by kernel_rfl) (fun _ _ _ h => h) ?_; clear S a; intro a S
      refine d_pure (i := 11) #[true, true, true, true, true, true, true, true, true, true, true, true, false] S rfl (p_assign rfl) (wanted_none rfl) rfl rfl (by kernel_rfl) (fun _ _ _ h => h) ?_; clear S a; intro a S
      refine d_pure (i := 12) #[true, true, true, true, true, true, true, true, true, true, true, true, true] S rfl (p_assign rfl) (wanted_none rfl) rfl rfl (by kernel_rfl) (fun _ _ _ h => h) ?_; clear S a; intro a S
      refine d_done (by kernel_rfl) ?_
      refine e_then ?_
      refine c_region ?_
      refine l_pure S (p_move rfl) rfl rfl rfl ?_; clear S a; intro a S
      refine l_pure S (p_move rfl) rfl rfl rfl ?_; clear S a; intro a S
      refine l_pure S (p_add (r := (nn : Int)) rfl rfl (by rw [Int.add_zero]; exact IntWalk.i64_in _ (by omega))) rfl rfl rfl ?_; clear S a; intro a S
      refine l_pure S (p_assign rfl) rfl rfl rfl ?_; clear S a; intro a S
      refine l_nil ?_
      refine e_in 1 ?_
      refine e_then ?_
      exact ⟨⟨nn, r3, [], .iface 143 (.pointer (some ae)), c2, _, _, 0⟩, ⟨S.only ⟨rfl, rfl, rfl, rfl, rfl, trivial⟩, H, ⟨hcz, hth2, (fun i v h => by simp at h), by simpa using hr3, .inr (.inr (.inr ⟨rfl, by omega, rfl, hvl⟩))⟩⟩, (show 0 < mu by omega)⟩
  · skip
    refine wp_seq ?_
    refine wp_seq ?_
    refine c_region ?_
    refine l_pure S (p_move rfl) rfl rfl rfl ?_; clear S a; intro a S
    refine l_pure S (p_move rfl) rfl rfl rfl ?_; clear S a; intro a S
    refine l_pure S (p_lss rfl rfl) rfl rfl rfl ?_; clear S a; intro a S
    refine l_pure S (p_move rfl) rfl rfl rfl ?_; clear S a; intro a S
    refine l_on S rfl rfl rfl rfl (show decide ((nn : Int) < (n : Int)) = true from decide_eq_true (by omega)) ?_
    refine l_pure S (p_move rfl) rfl rfl rfl ?_; clear S a; intro a S
    refine l_on S rfl rfl rfl rfl (show decide ((nn : Int) < (n : Int)) = true from decide_eq_true (by omega)) ?_
    refine l_pure S (p_ifnil mi49 rfl rfl) rfl rfl rfl ?_; clear S a; intro a S
    refine l_pure S (p_pick_t rfl (show decide ((nn : Int) < (n : Int)) = true from decide_eq_true (by omega)) rfl) rfl rfl rfl ?_; clear S a; intro a S
    refine l_nil ?_
    refine e_then ?_
    refine c_cond (b := false) S rfl (fun h => by cases h) (fun _ => ?_)
    refine wp_exit ?_
    refine e_then_exit ?_
    refine e_then_exit ?_
    refine e_in_exit ?_
    refine e_then ?_
    refine wp_seq ?_
    refine wp_seq ?_
    refine c_region ?_
    refine l_pure S (p_move rfl) rfl rfl rfl ?_; clear S a; intro a S
    refine l_pure S (p_move rfl) rfl rfl rfl ?_; clear S a; intro a S
    refine l_pure S (p_geq rfl rfl) rfl rfl rfl ?_; clear S a; intro a S
    refine l_nil ?_
    refine e_then ?_
    refine c_cond S rfl (fun h => by rw [(show decide ((nn : Int) ≥ (n : Int)) = false from decide_eq_false (by omega))] at h; cases h) (fun _ => ?_)
    refine wp_seq ?_
    refine c_region ?_
    refine l_pure S (p_move rfl) rfl rfl rfl ?_; clear S a; intro a S
    refine l_pure S (p_gtr rfl rfl) rfl rfl rfl ?_; clear S a; intro a S
    refine l_pure S (p_move rfl) rfl rfl rfl ?_; clear S a; intro a S
    refine l_split (S.of 40 rfl) (fun bc20 => ?_) (fun bc20 => ?_)
    · skip
      have c20 := bc20
      have c20 := of_decide_eq_true c20
      refine l_on S rfl rfl rfl rfl bc20 ?_
      refine l_pure S (p_move rfl) rfl rfl rfl ?_; clear S a; intro a S
      refine l_on S rfl rfl rfl rfl bc20 ?_
      refine l_read S H (r_loadG rfl hE hlt ag49) rfl rfl rfl ?_; clear S a; intro a S
      refine l_on S rfl rfl rfl rfl bc20 ?_
      refine l_pure S (p_ifsameE bu.mi49 pc_cmpE Tryd.underlying143 (by kernel_rfl) rfl rfl) rfl rfl rfl ?_; clear S a; intro a S
      refine l_pure S (p_pick_t rfl bc20 rfl) rfl rfl rfl ?_; clear S a; intro a S
      refine l_nil ?_
      refine e_then ?_
      refine c_cond (b := true) S rfl (fun _ => ?_) (fun h => by cases h)
      refine c_region ?_
      refine l_read S H (r_loadG rfl hU hltU ag49) rfl rfl rfl ?_; clear S a; intro a S
      refine l_pure S (p_assign rfl) rfl rfl rfl ?_; clear S a; intro a S
      refine l_nil ?_
      refine e_then ?_
      refine wp_ret ?_
      subst hv
      exact r_ret2 S rfl rfl rfl (.inr ⟨by omega, _, _, rfl, r2, c2, _, _, by simpa using hw2, hcz, H⟩)
    · skip
      have c20 := bc20
      have c20 := of_decide_eq_false c20
      refine l_off S rfl rfl rfl rfl bc20 rfl rfl ?_; clear S a; intro a S
      refine l_off S rfl rfl rfl rfl bc20 rfl rfl ?_; clear S a; intro a S
      refine l_off S rfl rfl rfl rfl bc20 rfl rfl ?_; clear S a; intro a S
      refine l_pure S (p_pick_f rfl bc20 rfl) rfl rfl rfl ?_; clear S a; intro a S
      refine l_nil ?_
      refine e_then ?_
      refine c_cond (b := false) S rfl (fun h => by cases h) (fun _ => ?_)
      refine wp_skip ?_
      refine e_then ?_
      refine wp_ret ?_
      subst hv
      exact r_ret2 S rfl rfl rfl (.inr ⟨by omega, _, _, rfl, r2, c2, _, _, by simpa using hw2, hcz, H⟩)
theorem rfull_ (wb w0 : World) (L0 : dc.Bk) (g gb gr : Nat) (cs : Array Value) (r : Nat) (vis : List Int) (s : ByteArray) (Az : Option Addr) (zs : List Int) (cz ap : Nat) (lb lr : Int) (gm o n cp : Nat) (cm : Array Value) (f : Nat × Nat) (ae : Addr) (hE : wb.cell? ⟨0, 0, none⟩ = some (.iface 143 (.pointer (some ae)))) (hlt : 0 < wb.heap.size) (qe : Addr) (hU : wb.cell? ⟨1, 0, none⟩ = some (.iface 143 (.pointer (some qe)))) (hltU : 1 < wb.heap.size) (H : HH wb.heap.size wb w0 ((g, .cells #[.slice (some ⟨gb, 0, none⟩) 4096 4096, .iface 42 (.pointer (some ⟨gr, 0, none⟩)), .int .i64 (r : Int), .int .i64 ((r + vis.length : Nat) : Int), .nilIface, .int .i64 lb, .int .i64 lr] 153 (0, 0)) :: (gb, .cells cs 5 (0, 0)) :: (gr, .cells #[.string s, .slice Az zs.length cz, .int .i64 (ap : Int), .bool false] 86 (0, 0)) :: (gm, .cells cm 5 f) :: L0)) (hcs : cs.size = 4096) (hrow : bf.Row cs r vis) (hw : r + vis.length ≤ 4096) (hs : s.size = 0) (hth : Thaw cm f) (ho : o + n ≤ cm.size) (hn0 : 0 < n) (hcp : n ≤ cp) (hn : n ≤ 10000000) : Calls Tryd.prog 63 #[.iface 102 (.pointer (some ⟨g, 0, none⟩)), .slice (some ⟨gm, o, none⟩) n cp] w0 fun e w' => (n ≤ vis.length ∧ e = .returned (.tuple #[.int .i64 (n : Int), .nilIface]) ∧ ∃ (r' : Nat) (lb' lr' : Int), bf.Row cs r' (vis.drop n) ∧ r' + (vis.drop n).length ≤ 4096 ∧ HH wb.heap.size wb w' ((g, .cells #[.slice (some ⟨gb, 0, none⟩) 4096 4096, .iface 42 (.pointer (some ⟨gr, 0, none⟩)), .int .i64 (r' : Int), .int .i64 ((r' + (vis.drop n).length : Nat) : Int), .nilIface, .int .i64 lb', .int .i64 lr'] 153 (0, 0)) :: (gb, .cells cs 5 (0, 0)) :: (gr, .cells #[.string s, .slice Az zs.length cz, .int .i64 (ap : Int), .bool false] 86 (0, 0)) :: (gm, .cells (spl cm o ((vis.take n).map (Value.int .u8))) 5 f) :: L0)) ∨ (vis.length < n ∧ ∃ x q, e = .returned (.tuple #[x, .iface 143 (.pointer (some q))]) ∧ ∃ (r' : Nat) (c' : Array Value) (lb' lr' : Int), r' ≤ 4096 ∧ c'.size = cm.size ∧ HH wb.heap.size wb w' ((g, .cells #[.slice (some ⟨gb, 0, none⟩) 4096 4096, .iface 42 (.pointer (some ⟨gr, 0, none⟩)), .int .i64 (r' : Int), .int .i64 ((r' + ([] : List Int).length : Nat) : Int), .nilIface, .int .i64 lb', .int .i64 lr'] 153 (0, 0)) :: (gb, .cells cs 5 (0, 0)) :: (gr, .cells #[.string s, .slice Az zs.length cz, .int .i64 (ap : Int), .bool false] 86 (0, 0)) :: (gm, .cells c' 5 f) :: L0)) := by
  refine c_enter (args := [.iface 102 (.pointer (some ⟨g, 0, none⟩)), .slice (some ⟨gm, o, none⟩) n cp]) (k := 11) Tryd.func63 rfl rfl rfl (fun a S => ?_)
  refine wp_seq ?_
  refine c_region ?_
  refine l_pure S (p_assign rfl) rfl rfl rfl ?_; clear S a; intro a S
  refine l_pure S (p_assign rfl) rfl rfl rfl ?_; clear S a; intro a S
  refine l_nil ?_
  refine e_then ?_
  refine wp_seq ?_
  refine c_region ?_
  refine l_pure S (p_move rfl) rfl rfl rfl ?_; clear S a; intro a S
  refine l_pure S (p_move rfl) rfl rfl rfl ?_; clear S a; intro a S
  refine l_pure S (p_move rfl) rfl rfl rfl ?_; clear S a; intro a S
  refine l_pure S (p_len Tryd.underlying55 rfl) rfl rfl rfl ?_; clear S a; intro a S
  have hcon := ral_ wb _ L0 g gb gr cs r vis s Az zs cz ap lb lr gm o n cp cm f ae hE hlt qe hU hltU H hcs hrow hw hs hth ho hn0 hcp hn
  refine l_call S rfl rfl Tryd.func73 rfl rfl hcon rfl rfl rfl ?_
  rintro e w (⟨h1, rfl, hrest⟩ | ⟨h1, x, q, rfl, hrest⟩)
  · skip
    refine ⟨_, rfl, ?_⟩; clear S a; intro a S; clear H hcon
    refine l_pure S (p_extract rfl rfl) rfl rfl rfl ?_; clear S a; intro a S
    refine l_pure S (p_extract rfl rfl) rfl rfl rfl ?_; clear S a; intro a S
    refine l_pure S (p_assign rfl) rfl rfl rfl ?_; clear S a; intro a S
    refine l_pure S (p_assign rfl) rfl rfl rfl ?_; clear S a; intro a S
    refine l_nil ?_
    refine e_then ?_
    refine wp_ret ?_
    exact r_ret2 S rfl rfl rfl (.inl ⟨h1, rfl, hrest⟩)
  · skip
    refine ⟨_, rfl, ?_⟩; clear S a; intro a S; clear H hcon
    refine l_pure S (p_extract rfl rfl) rfl rfl rfl ?_; clear S a; intro a S
    refine l_pure S (p_extract rfl rfl) rfl rfl rfl ?_; clear S a; intro a S
    refine l_pure S (p_assign rfl) rfl rfl rfl ?_; clear S a; intro a S
    refine l_pure S (p_assign rfl) rfl rfl rfl ?_; clear S a; intro a S
    refine l_nil ?_
    refine e_then ?_
    refine wp_ret ?_
    exact r_ret2 S rfl rfl rfl (.inr ⟨h1, x, q, rfl, hrest⟩)
end rc
end Go.Proofs.YtnmelglnkefjfaaDoor.rr
