/- The decoder's own methods, walked. -/
import Derived.Test.YtbahngfpadjbhaaDoorProg
import Derived.Test.YtbahngfpadjbhaaDoorDv
namespace Go.Proofs.YtbahngfpadjbhaaDoor.dec
open Go.RowKit Go.Proofs.HHW Go.Proofs.YtbahngfpadjbhaaDoorW.PrintWords
set_option linter.unusedVariables false
set_option linter.unusedSimpArgs false
abbrev TY : dc.Ty := ⟨54, 67, 47, 5⟩
theorem ag2 : aggB Tryd.prog 2 = some false := by kernel_rfl
theorem ag22 : aggB Tryd.prog 22 = some false := by kernel_rfl
theorem ag3 : aggB Tryd.prog 3 = some false := by kernel_rfl
theorem ag32 : aggB Tryd.prog 32 = some false := by kernel_rfl
theorem ag4 : aggB Tryd.prog 4 = some false := by kernel_rfl
theorem ag42 : aggB Tryd.prog 42 = some false := by kernel_rfl
theorem ag5 : aggB Tryd.prog 5 = some false := by kernel_rfl
theorem ag9 : aggB Tryd.prog 9 = some false := by kernel_rfl
theorem fa54_1 (w : World) (g o : Nat) : (Instr.fieldAt 54 (.pointer (some ⟨g, o, none⟩)) 1).run Tryd.prog w = .ok (.pointer (some ⟨g, o + 1, none⟩)) w := by kernel_rfl
theorem fa54_2 (w : World) (g o : Nat) : (Instr.fieldAt 54 (.pointer (some ⟨g, o, none⟩)) 2).run Tryd.prog w = .ok (.pointer (some ⟨g, o + 2, none⟩)) w := by kernel_rfl
theorem fa54_3 (w : World) (g o : Nat) : (Instr.fieldAt 54 (.pointer (some ⟨g, o, none⟩)) 3).run Tryd.prog w = .ok (.pointer (some ⟨g, o + 3, none⟩)) w := by kernel_rfl
theorem fa54_8 (w : World) (g o : Nat) : (Instr.fieldAt 54 (.pointer (some ⟨g, o, none⟩)) 8).run Tryd.prog w = .ok (.pointer (some ⟨g, o + 8, none⟩)) w := by kernel_rfl
theorem fa67_0 (w : World) (g o : Nat) : (Instr.fieldAt 67 (.pointer (some ⟨g, o, none⟩)) 0).run Tryd.prog w = .ok (.pointer (some ⟨g, o + 0, none⟩)) w := by kernel_rfl
theorem fa67_1 (w : World) (g o : Nat) : (Instr.fieldAt 67 (.pointer (some ⟨g, o, none⟩)) 1).run Tryd.prog w = .ok (.pointer (some ⟨g, o + 1, none⟩)) w := by kernel_rfl
theorem fa67_2 (w : World) (g o : Nat) : (Instr.fieldAt 67 (.pointer (some ⟨g, o, none⟩)) 2).run Tryd.prog w = .ok (.pointer (some ⟨g, o + 2, none⟩)) w := by kernel_rfl
theorem fa67_3 (w : World) (g o : Nat) : (Instr.fieldAt 67 (.pointer (some ⟨g, o, none⟩)) 3).run Tryd.prog w = .ok (.pointer (some ⟨g, o + 3, none⟩)) w := by kernel_rfl
theorem sz3 : szB Tryd.prog 3 = some 1 := by kernel_rfl
theorem sz5 : szB Tryd.prog 5 = some 1 := by kernel_rfl
theorem sz9 : szB Tryd.prog 9 = some 1 := by kernel_rfl
theorem at_ (wb w0 : World) (D L0 : dc.Bk) (g : Nat) (X : List Int) (p v : Nat) (cm : Bool) (M : Nat) (sec : Int) (sk : Bool) (eb : Value) (line : Nat) (er : Value) (hD : dc.Dec TY wb g X p v cm M sec sk eb line er D) (H : HH wb.heap.size wb w0 (D ++ L0)) (i : Nat) (hi : i ≤ 1000000) : Calls Tryd.prog 28 #[.pointer (some ⟨g, 0, none⟩), .int .i64 (i : Int)] w0 fun e w' => e = .returned (.int .u8 (if p + i < v then X.getD (p + i) 0 else 0)) ∧ HH wb.heap.size wb w' (D ++ L0) := by
  obtain ⟨rd, A, l, c, r0, mb, mr, rfl, hbuf, hrd, hr0, hvX, hdr, hsz, hpX⟩ := hD
  replace H := dc.open_.1 H
  refine c_enter (args := [.pointer (some ⟨g, 0, none⟩), .int .i64 (i : Int)]) (k := 27) Tryd.func28 rfl rfl rfl (fun a S => ?_)
  refine wp_seq ?_
  refine c_region ?_
  refine l_pure S (p_assign rfl) rfl rfl rfl ?_; clear S a; intro a S
  refine l_nil ?_
  refine e_then ?_
  refine wp_seq ?_
  refine wp_seq ?_
  refine d_start (id := 1) [] 12 #[false, false, false, false, false, false, false, false, false, false, false, false] H rfl rfl rfl (fun w H => ?_)
  refine d_pure (i := 0) #[true, false, false, false, false, false, false, false, false, false, false, false] S rfl (p_move rfl) (wanted_none rfl) rfl rfl (by kernel_rfl) (fun _ _ _ h => h) ?_; clear S a; intro a S
  refine d_pure (i := 1) #[true, true, false, false, false, false, false, false, false, false, false, false] S rfl (p_nilCheck rfl) (wanted_none rfl) rfl rfl (by kernel_rfl) (fun _ _ _ h => h) ?_; clear S a; intro a S
  refine d_pure (i := 2) #[true, true, true, false, false, false, false, false, false, false, false, false] S rfl (p_fieldAddr rfl (fun w => fa54_3 w _ _)) (wanted_none rfl) rfl rfl (by kernel_rfl) (fun _ _ _ h => h) ?_; clear S a; intro a S
  refine d_read (i := 3) #[true, true, true, true, false, false, false, false, false, false, false, false] S H rfl (r_load rfl List.mem_cons_self rfl (fun w hc => ld1 ag3 hc)) (wanted_none rfl) rfl rfl (by kernel_rfl) (fun _ _ _ h => h) ?_; clear S a; intro a S
  refine d_pure (i := 4) #[true, true, true, true, true, false, false, false, false, false, false, false] S rfl (p_move rfl) (wanted_none rfl) rfl rfl (by kernel_rfl) (fun _ _ _ h => h) ?_; clear S a; intro a S
  refine d_pure (i := 5) #[true, true, true, true, true, true, false, false, false, false, false, false] S rfl (p_add rfl rfl (nat_add (x := (r0 + p)) (y := i) (by omega))) (wanted_none rfl) rfl rfl (by kernel_rfl) (fun _ _ _ h => h) ?_; clear S a; intro a S
  refine d_pure (i := 6) #[true, true, true, true, true, true, true, false, false, false, false, false] S rfl (p_move rfl) (wanted_none rfl) rfl rfl (by kernel_rfl) (fun _ _ _ h => h) ?_; clear S a; intro a S
  refine d_pure (i := 7) #[true, true, true, true, true, true, true, true, false, false, false, false] S rfl (p_nilCheck rfl) (wanted_none rfl) rfl rfl (by kernel_rfl) (fun _ _ _ h => h) ?_; clear S a; intro a S
  refine d_pure (i := 8) #[true, true, true, true, true, true, true, true, true, false, false, false] S rfl (p_fieldAddr rfl (fun w => fa54_1 w _ _)) (wanted_none rfl) rfl rfl (by kernel_rfl) (fun _ _ _ h => h) ?_; clear S a; intro a S
  refine d_read (i := 9) #[true, true, true, true, true, true, true, true, true, true, false, false] S H rfl (r_load rfl List.mem_cons_self rfl (fun w hc => ld1 ag32 hc)) (wanted_none rfl) rfl rfl (by kernel_rfl) (fun _ _ _ h => h) ?_; clear S a; intro a S
  refine d_pure (i := 10) #[true, true, true, true, true, true, true, true, true, true, true, false] S rfl (p_len Tryd.underlying32 rfl) (wanted_none rfl) rfl rfl (by kernel_rfl) (fun _ _ _ h => h) ?_; clear S a; intro a S
  refine d_pure (i := 11) #[true, true, true, true, true, true, true, true, true, true, true, true] S rfl (p_lss rfl rfl) (wanted_none rfl) rfl rfl (by kernel_rfl) (fun _ _ _ h => h) ?_; clear S a; intro a S
  refine d_done (by kernel_rfl) ?_
  refine e_then ?_
  refine c_cond S rfl (fun c2 => ?_) (fun c2 => ?_)
  · skip
    have c2 := of_decide_eq_true c2
    obtain ⟨gb, cs, f, rfl, hcs, rfl, _, hrow⟩ := hbuf.ex (by omega)
    replace H : HH wb.heap.size wb _ ((g, _) :: (gb, .cells cs 5 f) :: (mr ++ L0)) := H
    refine wp_seq ?_
    refine d_start (id := 2) [] 13 #[false, false, false, false, false, false, false, false, false, false, false, false, false] H rfl rfl rfl (fun w H => ?_)
    refine d_pure (i := 0) #[true, false, false, false, false, false, false, false, false, false, false, false, false] S rfl (p_move rfl) (wanted_none rfl) rfl rfl (by kernel_rfl) (fun _ _ _ h => h) ?_; clear S a; intro a S
    refine d_pure (i := 1) #[true, true, false, false, false, false, false, false, false, false, false, false, false] S rfl (p_nilCheck rfl) (wanted_none rfl) rfl rfl (by kernel_rfl) (fun _ _ _ h => h) ?_; clear S a; intro a S
    refine d_pure (i := 2) #[true, true, true, false, false, false, false, false, false, false, false, false, false] S rfl (p_fieldAddr rfl (fun w => fa54_1 w _ _)) (wanted_none rfl) rfl rfl (by kernel_rfl) (fun _ _ _ h => h) ?_; clear S a; intro a S
    refine d_read (i := 3) #[true, true, true, true, false, false, false, false, false, false, false, false, false] S H rfl (r_load rfl List.mem_cons_self rfl (fun w hc => ld1 ag32 hc)) (wanted_none rfl) rfl rfl (by kernel_rfl) (fun _ _ _ h => h) ?_; clear S a; intro a S
    refine d_pure (i := 4) #[true, true, true, true, true, false, false, false, false, false, false, false, false] S rfl (p_move rfl) (wanted_none rfl) rfl rfl (by kernel_rfl) (fun _ _ _ h => h) ?_; clear S a; intro a S
    refine d_pure (i := 5) #[true, true, true, true, true, true, false, false, false, false, false, false, false] S rfl (p_nilCheck rfl) (wanted_none rfl) rfl rfl (by kernel_rfl) (fun _ _ _ h => h) ?_; clear S a; intro a S
    refine d_pure (i := 6) #[true, true, true, true, true, true, true, false, false, false, false, false, false] S rfl (p_fieldAddr rfl (fun w => fa54_3 w _ _)) (wanted_none rfl) rfl rfl (by kernel_rfl) (fun _ _ _ h => h) ?_; clear S a; intro a S
    refine d_read (i := 7) #[true, true, true, true, true, true, true, true, false, false, false, false, false] S H rfl (r_load rfl List.mem_cons_self rfl (fun w hc => ld1 ag3 hc)) (wanted_none rfl) rfl rfl (by kernel_rfl) (fun _ _ _ h => h) ?_; clear S a; intro a S
    refine d_pure (i := 8) #[true, true, true, true, true, true, true, true, true, false, false, false, false] S rfl (p_move rfl) (wanted_none rfl) rfl rfl (by kernel_rfl) (fun _ _ _ h => h) ?_; clear S a; intro a S
    refine d_pure (i := 9) #[true, true, true, true, true, true, true, true, true, true, false, false, false] S rfl (p_add rfl rfl (nat_add (x := (r0 + p)) (y := i) (by omega))) (wanted_none rfl) rfl rfl (by kernel_rfl) (fun _ _ _ h => h) ?_; clear S a; intro a S
    refine d_pure (i := 10) #[true, true, true, true, true, true, true, true, true, true, true, false, false] S rfl (p_indexAddr rfl rfl (fun w => ia_slice Tryd.underlying32 sz5 (by omega) (by omega))) (wanted_none rfl) rfl rfl (by kernel_rfl) (fun _ _ _ h => h) ?_; clear S a; intro a S
    refine d_read (i := 11) #[true, true, true, true, true, true, true, true, true, true, true, true, false] S H rfl (r_load rfl (List.mem_cons_of_mem _ List.mem_cons_self) (row_at hrow (i := r0 + p + i) (by omega) (by omega)) (fun w hc => ld1 ag5 hc)) (wanted_none rfl) rfl rfl (by kernel_rfl) (fun _ _ _ h => h) ?_; clear S a; intro a S
    refine d_pure (i := 12) #[true, true, true, true, true, true, true, true, true, true, true, true, true] S rfl (p_assign rfl) (wanted_none rfl) rfl rfl (by kernel_rfl) (fun _ _ _ h => h) ?_; clear S a; intro a S
    refine d_done (by kernel_rfl) ?_
    refine e_then ?_
    refine wp_ret ?_
    refine e_then_ret ?_
    exact r_ret1 S rfl rfl ⟨by rw [if_pos (by omega), dc.at_vis hdr hr0 (by omega) hvX], dc.open_.2 H⟩
  · skip
    have c2 := of_decide_eq_false c2
    refine wp_skip ?_
    refine e_then ?_
    refine wp_seq ?_
    refine c_region ?_
    refine l_pure S (p_assign rfl) rfl rfl rfl ?_; clear S a; intro a S
    refine l_nil ?_
    refine e_then ?_
    refine wp_ret ?_
    exact r_ret1 S rfl rfl ⟨by rw [if_neg (by omega)], dc.open_.2 H⟩
theorem advance_ (wb w0 : World) (D L0 : dc.Bk) (g : Nat) (X : List Int) (p v : Nat) (cm : Bool) (M : Nat) (sec : Int) (sk : Bool) (eb : Value) (line : Nat) (er : Value) (hD : dc.Dec TY wb g X p v cm M sec sk eb line er D) (H : HH wb.heap.size wb w0 (D ++ L0)) (i : Nat) (hpi : p + i ≤ X.length) : Calls Tryd.prog 29 #[.pointer (some ⟨g, 0, none⟩), .int .i64 (i : Int)] w0 fun e w' => e = .returned (.tuple #[]) ∧ ∃ D', dc.Dec TY wb g X (p + i) v cm M sec sk eb line er D' ∧ HH wb.heap.size wb w' (D' ++ L0) ∧ dc.Keeps D D' [] := by
  obtain ⟨rd, A, l, c, r0, mb, mr, rfl, hbuf, hrd, hr0, hvX, hdr, hsz, hpX⟩ := hD
  replace H := dc.open_.1 H
  refine c_enter (args := [.pointer (some ⟨g, 0, none⟩), .int .i64 (i : Int)]) (k := 10) Tryd.func29 rfl rfl rfl (fun a S => ?_)
  refine c_region ?_
  refine l_pure S (p_move rfl) rfl rfl rfl ?_; clear S a; intro a S
  refine l_pure S (p_nilCheck rfl) rfl rfl rfl ?_; clear S a; intro a S
  refine l_pure S (p_fieldAddr rfl (fun w => fa54_3 w _ _)) rfl rfl rfl ?_; clear S a; intro a S
  refine l_read S H (r_load rfl List.mem_cons_self rfl (fun w hc => ld1 ag3 hc)) rfl rfl rfl ?_; clear S a; intro a S
  refine l_pure S (p_move rfl) rfl rfl rfl ?_; clear S a; intro a S
  refine l_pure S (p_add rfl rfl (nat_add (x := (r0 + p)) (y := i) (by omega))) rfl rfl rfl ?_; clear S a; intro a S
  refine l_pure S (p_nilCheck rfl) rfl rfl rfl ?_; clear S a; intro a S
  refine l_pure S (p_fieldAddr rfl (fun w => fa54_3 w _ _)) rfl rfl rfl ?_; clear S a; intro a S
  refine l_store S H rfl rfl rfl .here (by first | decide | simp [Value.cells]) (fun w u hc hz => st1 sz3 rfl hc hz) rfl rfl ?_; clear S a H; intro w a H S
  refine l_nil ?_
  have e1 : r0 + p + i = r0 + (p + i) := Nat.add_assoc _ _ _
  rw [e1] at H
  exact r_end0 S rfl ⟨rfl, _, ⟨rd, A, l, c, r0, mb, mr, rfl, hbuf, hrd, hr0, hvX, hdr, hsz, hpi⟩, dc.open_.2 H, dc.Keeps.head rfl⟩
theorem place_ (wb w0 : World) (D L0 : dc.Bk) (g : Nat) (X : List Int) (p v : Nat) (cm : Bool) (M : Nat) (sec : Int) (sk : Bool) (eb : Value) (line : Nat) (er : Value) (hD : dc.Dec TY wb g X p v cm M sec sk eb line er D) (H : HH wb.heap.size wb w0 (D ++ L0)) : Calls Tryd.prog 14 #[.pointer (some ⟨g, 0, none⟩)] w0 fun e w' => e = .returned (.tuple #[.int .i64 (p : Int), .int .i64 (line : Int)]) ∧ HH wb.heap.size wb w' (D ++ L0) := by
  obtain ⟨rd, A, l, c, r0, mb, mr, rfl, hbuf, hrd, hr0, hvX, hdr, hsz, hpX⟩ := hD
  replace H := dc.open_.1 H
  refine c_enter (args := [.pointer (some ⟨g, 0, none⟩)]) (k := 16) Tryd.func14 rfl rfl rfl (fun a S => ?_)
  refine wp_seq ?_
  refine c_region ?_
  refine l_pure S (p_assign rfl) rfl rfl rfl ?_; clear S a; intro a S
  refine l_pure S (p_assign rfl) rfl rfl rfl ?_; clear S a; intro a S
  refine l_nil ?_
  refine e_then ?_
  refine wp_seq ?_
  refine d_start (id := 1) [] 15 #[false, false, false, false, false, false, false, false, false, false, false, false, false, false, false] H rfl rfl rfl (fun w H => ?_)
  refine d_pure (i := 0) #[true, false, false, false, false, false, false, false, false, false, false, false, false, false, false] S rfl (p_move rfl) (wanted_none rfl) rfl rfl (by kernel_rfl) (fun _ _ _ h => h) ?_; clear S a; intro a S
  refine d_pure (i := 1) #[true, true, false, false, false, false, false, false, false, false, false, false, false, false, false] S rfl (p_nilCheck rfl) (wanted_none rfl) rfl rfl (by kernel_rfl) (fun _ _ _ h => h) ?_; clear S a; intro a S
  refine d_pure (i := 2) #[true, true, true, false, false, false, false, false, false, false, false, false, false, false, false] S rfl (p_fieldAddr rfl (fun w => fa54_3 w _ _)) (wanted_none rfl) rfl rfl (by kernel_rfl) (fun _ _ _ h => h) ?_; clear S a; intro a S
  refine d_read (i := 3) #[true, true, true, true, false, false, false, false, false, false, false, false, false, false, false] S H rfl (r_load rfl List.mem_cons_self rfl (fun w hc => ld1 ag3 hc)) (wanted_none rfl) rfl rfl (by kernel_rfl) (fun _ _ _ h => h) ?_; clear S a; intro a S
  refine d_pure (i := 4) #[true, true, true, true, true, false, false, false, false, false, false, false, false, false, false] S rfl (p_move rfl) (wanted_none rfl) rfl rfl (by kernel_rfl) (fun _ _ _ h => h) ?_; clear S a; intro a S
  refine d_pure (i := 5) #[true, true, true, true, true, true, false, false, false, false, false, false, false, false, false] S rfl (p_nilCheck rfl) (wanted_none rfl) rfl rfl (by kernel_rfl) (fun _ _ _ h => h) ?_; clear S a; intro a S
  refine d_pure (i := 6) #[true, true, true, true, true, true, true, false, false, false, false, false, false, false, false] S rfl (p_fieldAddr rfl (fun w => fa54_2 w _ _)) (wanted_none rfl) rfl rfl (by kernel_rfl) (fun _ _ _ h => h) ?_; clear S a; intro a S
  refine d_read (i := 7) #[true, true, true, true, true, true, true, true, false, false, false, false, false, false, false] S H rfl (r_load rfl List.mem_cons_self rfl (fun w hc => ld1 ag3 hc)) (wanted_none rfl) rfl rfl (by kernel_rfl) (fun _ _ _ h => h) ?_; clear S a; intro a S
  refine d_pure (i := 8) #[true, true, true, true, true, true, true, true, true, false, false, false, false, false, false] S rfl (p_sub rfl rfl (nat_sub (x := (r0 + p)) (y := r0) (by omega) (by omega))) (wanted_none rfl) rfl rfl (by kernel_rfl) (fun _ _ _ h => h) ?_; clear S a; intro a S
  refine d_pure (i := 9) #[true, true, true, true, true, true, true, true, true, true, false, false, false, false, false] S rfl (p_move rfl) (wanted_none rfl) rfl rfl (by kernel_rfl) (fun _ _ _ h => h) ?_; clear S a; intro a S
  refine d_pure (i := 10) #[true, true, true, true, true, true, true, true, true, true, true, false, false, false, false] S rfl (p_nilCheck rfl) (wanted_none rfl) rfl rfl (by kernel_rfl) (fun _ _ _ h => h) ?_; clear S a; intro a S
  refine d_pure (i := 11) #[true, true, true, true, true, true, true, true, true, true, true, true, false, false, false] S rfl (p_fieldAddr rfl (fun w => fa54_8 w _ _)) (wanted_none rfl) rfl rfl (by kernel_rfl) (fun _ _ _ h => h) ?_; clear S a; intro a S
  refine d_read (i := 12) #[true, true, true, true, true, true, true, true, true, true, true, true, true, false, false] S H rfl (r_load rfl List.mem_cons_self rfl (fun w hc => ld1 ag2 hc)) (wanted_none rfl) rfl rfl (by kernel_rfl) (fun _ _ _ h => h) ?_; clear S a; intro a S
  refine d_pure (i := 13) #[true, true, true, true, true, true, true, true, true, true, true, true, true, true, false] S rfl (p_assign rfl) (wanted_none rfl) rfl rfl (by kernel_rfl) (fun _ _ _ h => h) ?_; clear S a; intro a S
  refine d_pure (i := 14) #[true, true, true, true, true, true, true, true, true, true, true, true, true, true, true] S rfl (p_assign rfl) (wanted_none rfl) rfl rfl (by kernel_rfl) (fun _ _ _ h => h) ?_; clear S a; intro a S
  refine d_done (by kernel_rfl) ?_
  refine e_then ?_
  refine wp_ret ?_
  have e1 : r0 + p - r0 = p := by omega
  rw [e1] at S
  exact r_ret2 S rfl rfl rfl ⟨rfl, dc.open_.2 H⟩
set_option maxHeartbeats 1000000 in
theorem read_ (wb w0 : World) (L0 : dc.Bk) (gr gb : Nat) (s : ByteArray) (Az : Option Addr) (zs : List Int) (cz ap : Nat) (cs : Array Value) (o n : Nat) (ae : Addr) (hE : wb.cell? ⟨2, 0, none⟩ = some (.iface 89 (.pointer (some ae)))) (hlt : 2 < wb.heap.size) (H : HH wb.heap.size wb w0 ((gr, .cells #[.string s, .slice Az zs.length cz, .int .i64 (ap : Int), .bool false] 67 (0, 0)) :: (gb, .cells cs 5 (0, 0)) :: L0)) (hC : (Kd.int .i64).C wb Az zs.length zs) (ho : o + n ≤ cs.size) (hn : n ≤ 1000000000000) (ha : ap ≤ 2000000000000) (hs : s.size ≤ 1000000) : Calls Tryd.prog 100 #[.pointer (some ⟨gr, 0, none⟩), .slice (some ⟨gb, o, none⟩) n n] w0 fun e w' => (s.size = 0 ∧ e = .returned (.tuple #[.int .i64 0, .iface 89 (.pointer (some ae))]) ∧ HH wb.heap.size wb w' ((gr, .cells #[.string s, .slice Az zs.length cz, .int .i64 (ap : Int), .bool false] 67 (0, 0)) :: (gb, .cells cs 5 (0, 0)) :: L0)) ∨ (0 < s.size ∧ e = .returned (.tuple #[.int .i64 (dc.took zs ap s.size n : Int), .nilIface]) ∧ HH wb.heap.size wb w' ((gr, .cells #[.string (s.extract (dc.took zs ap s.size n) s.size), .slice Az zs.length cz, .int .i64 ((if zs = [] then ap else ap + 1 : Nat) : Int), .bool false] 67 (0, 0)) :: (gb, .cells (spl cs o (((ints s).map (Value.int .u8)).take (dc.took zs ap s.size n))) 5 (0, 0)) :: L0)) := by
  refine c_enter (args := [.pointer (some ⟨gr, 0, none⟩), .slice (some ⟨gb, o, none⟩) n n]) (k := 81) Tryd.func100 rfl rfl rfl (fun a S => ?_)
  refine wp_seq ?_
  refine c_region ?_
  refine l_pure S (p_assign rfl) rfl rfl rfl ?_; clear S a; intro a S
  refine l_pure S (p_assign rfl) rfl rfl rfl ?_; clear S a; intro a S
  refine l_nil ?_
  refine e_then ?_
  refine wp_seq ?_
  refine wp_seq ?_
  refine c_region ?_
  refine l_pure S (p_move rfl) rfl rfl rfl ?_; clear S a; intro a S
  refine l_pure S (p_nilCheck rfl) rfl rfl rfl ?_; clear S a; intro a S
  refine l_pure S (p_fieldAddr rfl (fun w => fa67_0 w _ _)) rfl rfl rfl ?_; clear S a; intro a S
  refine l_read S H (r_load rfl List.mem_cons_self rfl (fun w hc => ld1 ag9 hc)) rfl rfl rfl ?_; clear S a; intro a S
  refine l_pure S (p_lens Tryd.underlying9 rfl) rfl rfl rfl ?_; clear S a; intro a S
  refine l_pure S (p_eql rfl rfl) rfl rfl rfl ?_; clear S a; intro a S
  refine l_pure S (p_move rfl) rfl rfl rfl ?_; clear S a; intro a S
  refine l_split (S.of 13 rfl) (fun bc2 => ?_) (fun bc2 => ?_)
  · skip
    have c2 := bc2
    have c2 := eq_of_beq c2
    refine l_on S rfl rfl rfl rfl bc2 ?_
    refine l_pure S (p_move rfl) rfl rfl rfl ?_; clear S a; intro a S
    refine l_on S rfl rfl rfl rfl bc2 ?_
    refine l_pure S (p_nilCheck rfl) rfl rfl rfl ?_; clear S a; intro a S
    refine l_on S rfl rfl rfl rfl bc2 ?_
    refine l_pure S (p_fieldAddr rfl (fun w => fa67_3 w _ _)) rfl rfl rfl ?_; clear S a; intro a S
    refine l_on S rfl rfl rfl rfl bc2 ?_
    refine l_read S H (r_load rfl List.mem_cons_self rfl (fun w hc => ld1 ag4 hc)) rfl rfl rfl ?_; clear S a; intro a S
    refine l_pure S (p_pick_t rfl bc2 rfl) rfl rfl rfl ?_; clear S a; intro a S
    refine l_nil ?_
    refine e_then ?_
    refine c_cond (b := false) S rfl (fun h => by cases h) (fun _ => ?_)
    refine wp_skip ?_
    refine e_then ?_
    refine wp_seq ?_
    refine wp_seq ?_
    refine c_region ?_
    refine l_pure S (p_move rfl) rfl rfl rfl ?_; clear S a; intro a S
    refine l_pure S (p_nilCheck rfl) rfl rfl rfl ?_; clear S a; intro a S
    refine l_pure S (p_fieldAddr rfl (fun w => fa67_0 w _ _)) rfl rfl rfl ?_; clear S a; intro a S
    refine l_read S H (r_load rfl List.mem_cons_self rfl (fun w hc => ld1 ag9 hc)) rfl rfl rfl ?_; clear S a; intro a S
    refine l_pure S (p_lens Tryd.underlying9 rfl) rfl rfl rfl ?_; clear S a; intro a S
    refine l_pure S (p_eql rfl rfl) rfl rfl rfl ?_; clear S a; intro a S
    refine l_nil ?_
    refine e_then ?_
    refine c_cond S rfl (fun _ => ?_) (fun h => by rw [(show ((s.size : Int) == 0) = true from beq_iff_eq.2 (by omega))] at h; cases h)
    refine wp_seq ?_
    refine d_start (id := 4) [] 3 #[false, false, false] H rfl rfl rfl (fun w H => ?_)
    refine d_read (i := 0) #[true, false, false] S H rfl (r_loadG rfl hE hlt ag42) (wanted_none rfl) rfl rfl (by kernel_rfl) (fun _ _ _ h => h) ?_; clear S a; intro a S
    refine d_pure (i := 1) #[true, true, false] S rfl (p_assign rfl) (wanted_none rfl) rfl rfl (by kernel_rfl) (fun _ _ _ h => h) ?_; clear S a; intro a S
    refine d_pure (i := 2) #[true, true, true] S rfl (p_assign rfl) (wanted_none rfl) rfl rfl (by kernel_rfl) (fun _ _ _ h => h) ?_; clear S a; intro a S
    refine d_done (by kernel_rfl) ?_
    refine e_then ?_
    refine wp_ret ?_
    refine e_then_ret ?_
    exact r_ret2 S rfl rfl rfl (.inl ⟨by omega, rfl, H⟩)
  · skip
    have c2 := bc2
    have c2 := ne_of_beq_false c2
    refine l_off S rfl rfl rfl rfl bc2 rfl rfl ?_; clear S a; intro a S
    refine l_off S rfl rfl rfl rfl bc2 rfl rfl ?_; clear S a; intro a S
    refine l_off S rfl rfl rfl rfl bc2 rfl rfl ?_; clear S a; intro a S
    refine l_off S rfl rfl rfl rfl bc2 rfl rfl ?_; clear S a; intro a S
    refine l_pure S (p_pick_f rfl bc2 rfl) rfl rfl rfl ?_; clear S a; intro a S
    refine l_nil ?_
    refine e_then ?_
    refine c_cond (b := false) S rfl (fun h => by cases h) (fun _ => ?_)
    refine wp_skip ?_
    refine e_then ?_
    refine wp_seq ?_
    refine wp_seq ?_
    refine c_region ?_
    refine l_pure S (p_move rfl) rfl rfl rfl ?_; clear S a; intro a S
    refine l_pure S (p_nilCheck rfl) rfl rfl rfl ?_; clear S a; intro a S
    refine l_pure S (p_fieldAddr rfl (fun w => fa67_0 w _ _)) rfl rfl rfl ?_; clear S a; intro a S
    refine l_read S H (r_load rfl List.mem_cons_self rfl (fun w hc => ld1 ag9 hc)) rfl rfl rfl ?_; clear S a; intro a S
    refine l_pure S (p_lens Tryd.underlying9 rfl) rfl rfl rfl ?_; clear S a; intro a S
    refine l_pure S (p_eql rfl rfl) rfl rfl rfl ?_; clear S a; intro a S
    refine l_nil ?_
    refine e_then ?_
    refine c_cond S rfl (fun h => by rw [(show ((s.size : Int) == 0) = false from beq_eq_false_iff_ne.2 (by omega))] at h; cases h) (fun _ => ?_)
    refine wp_skip ?_
    refine e_then ?_
    refine wp_seq ?_
    refine c_region ?_
    refine l_pure S (p_move rfl) rfl rfl rfl ?_; clear S a; intro a S
    refine l_pure S (p_nilCheck rfl) rfl rfl rfl ?_; clear S a; intro a S
    refine l_pure S (p_fieldAddr rfl (fun w => fa67_0 w _ _)) rfl rfl rfl ?_; clear S a; intro a S
    refine l_read S H (r_load rfl List.mem_cons_self rfl (fun w hc => ld1 ag9 hc)) rfl rfl rfl ?_; clear S a; intro a S
    refine l_pure S (p_lens Tryd.underlying9 rfl) rfl rfl rfl ?_; clear S a; intro a S
    refine l_pure S (p_assign rfl) rfl rfl rfl ?_; clear S a; intro a S
    refine l_nil ?_
    refine e_then ?_
    refine c_cut (fun a w => ∃ q : Nat, ∃ a1 : Nat, SL a 83 [] [(0, .pointer (some ⟨gr, 0, none⟩)), (1, .slice (some ⟨gb, o, none⟩) n n), (6, .int .i64 (q : Int))] ∧ HH (wb.heap.size) wb w ((gr, .cells #[.string s, .slice Az zs.length cz, .int .i64 (a1 : Int), .bool false] 67 (0, 0)) :: (gb, .cells cs 5 (0, 0)) :: L0) ∧ q = (if zs = [] then s.size else (zs.getD (ap % zs.length) 0).toNat) ∧ a1 = (if zs = [] then ap else ap + 1)) ?_ ?_
    · clear S a H; rintro a w ⟨q, a1, S, H, hinv⟩
      obtain ⟨hq, ha1⟩ := hinv
      have hkl := dc.took_le zs ap s.size n
      have hk : Nat.min s.size (min q n) = dc.took zs ap s.size n := by rw [hq]; rfl
      refine wp_seq ?_
      refine d_start (id := 9) [10] 12 #[false, false, false, false, false, false, false, false, false, false, false, false] H rfl rfl rfl (fun w H => ?_)
      refine d_pure (i := 0) #[true, false, false, false, false, false, false, false, false, false, false, false] S rfl (p_move rfl) (wanted_none rfl) rfl rfl (by kernel_rfl) (fun _ _ _ h => h) ?_; clear S a; intro a S
      refine d_pure (i := 1) #[true, true, false, false, false, false, false, false, false, false, false, false] S rfl (p_move rfl) (wanted_none rfl) rfl rfl (by kernel_rfl) (fun _ _ _ h => h) ?_; clear S a; intro a S
      refine d_pure (i := 2) #[true, true, true, false, false, false, false, false, false, false, false, false] S rfl (p_move rfl) (wanted_none rfl) rfl rfl (by kernel_rfl) (fun _ _ _ h => h) ?_; clear S a; intro a S
      refine d_pure (i := 3) #[true, true, true, true, false, false, false, false, false, false, false, false] S rfl (p_len Tryd.underlying32 rfl) (wanted_none rfl) rfl rfl (by kernel_rfl) (fun _ _ _ h => h) ?_; clear S a; intro a S
      refine d_pure (i := 4) #[true, true, true, true, true, false, false, false, false, false, false, false] S rfl (p_minN (x := q) (y := n) rfl rfl) (wanted_none rfl) rfl rfl (by kernel_rfl) (fun _ _ _ h => h) ?_; clear S a; intro a S
      refine d_pure (i := 5) #[true, true, true, true, true, true, false, false, false, false, false, false] S rfl (p_slice rfl (fun _ _ => o_none) (o_some rfl) (fun _ _ => o_none) (fun w => sl_hi Tryd.underlying32 sz5 rfl (by omega))) (wanted_none rfl) rfl rfl (by kernel_rfl) (fun _ _ _ h => h) ?_; clear S a; intro a S
      refine d_pure (i := 6) #[true, true, true, true, true, true, true, false, false, false, false, false] S rfl (p_move rfl) (wanted_none rfl) rfl rfl (by kernel_rfl) (fun _ _ _ h => h) ?_; clear S a; intro a S
      refine d_pure (i := 7) #[true, true, true, true, true, true, true, true, false, false, false, false] S rfl (p_nilCheck rfl) (wanted_none rfl) rfl rfl (by kernel_rfl) (fun _ _ _ h => h) ?_; clear S a; intro a S
      refine d_pure (i := 8) #[true, true, true, true, true, true, true, true, true, false, false, false] S rfl (p_fieldAddr rfl (fun w => fa67_0 w _ _)) (wanted_none rfl) rfl rfl (by kernel_rfl) (fun _ _ _ h => h) ?_; clear S a; intro a S
      refine d_read (i := 9) #[true, true, true, true, true, true, true, true, true, true, false, false] S H rfl (r_load rfl List.mem_cons_self rfl (fun w hc => ld1 ag9 hc)) (wanted_none rfl) rfl rfl (by kernel_rfl) (fun _ _ _ h => h) ?_; clear S a; intro a S
      refine d_copy (i := 10) #[true, true, true, true, true, true, true, true, true, true, true, false] S H rfl rfl rfl rfl Tryd.underlying32 sz5 (first_string s) (by omega) hk (.there .here) (wanted_none rfl) rfl rfl (by kernel_rfl) rfl ?_; clear S a H; intro w a H S
      refine d_pure (i := 11) #[true, true, true, true, true, true, true, true, true, true, true, true] S rfl (p_assign rfl) (wanted_none rfl) rfl rfl (by kernel_rfl) (fun _ _ _ h => h) ?_; clear S a; intro a S
      refine d_done (by kernel_rfl) ?_
      refine e_then ?_
      refine wp_seq ?_
      refine c_region ?_
      refine l_pure S (p_move rfl) rfl rfl rfl ?_; clear S a; intro a S
      refine l_pure S (p_move rfl) rfl rfl rfl ?_; clear S a; intro a S
      refine l_pure S (p_nilCheck rfl) rfl rfl rfl ?_; clear S a; intro a S
      refine l_pure S (p_fieldAddr rfl (fun w => fa67_0 w _ _)) rfl rfl rfl ?_; clear S a; intro a S
      refine l_read S H (r_load rfl List.mem_cons_self rfl (fun w hc => ld1 ag9 hc)) rfl rfl rfl ?_; clear S a; intro a S
      refine l_pure S (p_move rfl) rfl rfl rfl ?_; clear S a; intro a S
      refine l_pure S (p_slice rfl (o_some rfl) (fun _ _ => o_none) (fun _ _ => o_none) (fun w => sl_string_lo Tryd.underlying9 (by omega) (by omega))) rfl rfl rfl ?_; clear S a; intro a S
      refine l_pure S (p_nilCheck rfl) rfl rfl rfl ?_; clear S a; intro a S
      refine l_pure S (p_fieldAddr rfl (fun w => fa67_0 w _ _)) rfl rfl rfl ?_; clear S a; intro a S
      refine l_store S H rfl rfl rfl .here (by first | decide | simp [Value.cells]) (fun w u hc hz => st1 sz9 rfl hc hz) rfl rfl ?_; clear S a H; intro w a H S
      refine l_nil ?_
      refine e_then ?_
      refine wp_seq ?_
      refine c_region ?_
      refine l_pure S (p_move rfl) rfl rfl rfl ?_; clear S a; intro a S
      refine l_pure S (p_assign rfl) rfl rfl rfl ?_; clear S a; intro a S
      refine l_pure S (p_assign rfl) rfl rfl rfl ?_; clear S a; intro a S
      refine l_nil ?_
      refine e_then ?_
      refine wp_ret ?_
      rw [Int.toNat_natCast] at H
      exact r_ret2 S rfl rfl rfl (.inr ⟨by omega, rfl, by rw [← ha1]; exact H⟩)
    · skip
      refine wp_seq ?_
      refine c_region ?_
      refine l_pure S (p_move rfl) rfl rfl rfl ?_; clear S a; intro a S
      refine l_pure S (p_nilCheck rfl) rfl rfl rfl ?_; clear S a; intro a S
      refine l_pure S (p_fieldAddr rfl (fun w => fa67_1 w _ _)) rfl rfl rfl ?_; clear S a; intro a S
      refine l_read S H (r_load rfl List.mem_cons_self rfl (fun w hc => ld1 ag22 hc)) rfl rfl rfl ?_; clear S a; intro a S
      refine l_pure S (p_len Tryd.underlying22 rfl) rfl rfl rfl ?_; clear S a; intro a S
      refine l_pure S (p_gtr rfl rfl) rfl rfl rfl ?_; clear S a; intro a S
      refine l_nil ?_
      refine e_then ?_
      refine c_cond S rfl (fun c12 => ?_) (fun c12 => ?_)
      · skip
        have c12 := of_decide_eq_true c12
        obtain ⟨ad, rfl⟩ := C_some hC (show 0 < zs.length by omega)
        refine wp_seq ?_
        refine d_start (id := 7) [] 18 #[false, false, false, false, false, false, false, false, false, false, false, false, false, false, false, false, false, false] H rfl rfl rfl (fun w H => ?_)
        refine d_pure (i := 0) #[true, false, false, false, false, false, false, false, false, false, false, false, false, false, false, false, false, false] S rfl (p_move rfl) (wanted_none rfl) rfl rfl (by kernel_rfl) (fun _ _ _ h => h) ?_; clear S a; intro a S
        refine d_pure (i := 1) #[true, true, false, false, false, false, false, false, false, false, false, false, false, false, false, false, false, false] S rfl (p_nilCheck rfl) (wanted_none rfl) rfl rfl (by kernel_rfl) (fun _ _ _ h => h) ?_; clear S a; intro a S
        refine d_pure (i := 2) #[true, true, true, false, false, false, false, false, false, false, false, false, false, false, false, false, false, false] S rfl (p_fieldAddr rfl (fun w => fa67_1 w _ _)) (wanted_none rfl) rfl rfl (by kernel_rfl) (fun _ _ _ h => h) ?_; clear S a; intro a S
        refine d_read (i := 3) #[true, true, true, true, false, false, false, false, false, false, false, false, false, false, false, false, false, false] S H rfl (r_load rfl List.mem_cons_self rfl (fun w hc => ld1 ag22 hc)) (wanted_none rfl) rfl rfl (by kernel_rfl) (fun _ _ _ h => h) ?_; clear S a; intro a S
        refine d_pure (i := 4) #[true, true, true, true, true, false, false, false, false, false, false, false, false, false, false, false, false, false] S rfl (p_move rfl) (wanted_none rfl) rfl rfl (by kernel_rfl) (fun _ _ _ h => h) ?_; clear S a; intro a S
        refine d_pure (i := 5) #[true, true, true, true, true, true, false, false, false, false, false, false, false, false, false, false, false, false] S rfl (p_nilCheck rfl) (wanted_none rfl) rfl rfl (by kernel_rfl) (fun _ _ _ h => h) ?_; clear S a; intro a S
        refine d_pure (i := 6) #[true, true, true, true, true, true, true, false, false, false, false, false, false, false, false, false, false, false] S rfl (p_fieldAddr rfl (fun w => fa67_2 w _ _)) (wanted_none rfl) rfl rfl (by kernel_rfl) (fun _ _ _ h => h) ?_; clear S a; intro a S
        refine d_read (i := 7) #[true, true, true, true, true, true, true, true, false, false, false, false, false, false, false, false, false, false] S H rfl (r_load rfl List.mem_cons_self rfl (fun w hc => ld1 ag3 hc)) (wanted_none rfl) rfl rfl (by kernel_rfl) (fun _ _ _ h => h) ?_; clear S a; intro a S
        refine d_pure (i := 8) #[true, true, true, true, true, true, true, true, true, false, false, false, false, false, false, false, false, false] S rfl (p_move rfl) (wanted_none rfl) rfl rfl (by kernel_rfl) (fun _ _ _ h => h) ?_; clear S a; intro a S
        refine d_pure (i := 9) #[true, true, true, true, true, true, true, true, true, true, false, false, false, false, false, false, false, false] S rfl (p_nilCheck rfl) (wanted_none rfl) rfl rfl (by kernel_rfl) (fun _ _ _ h => h) ?_; clear S a; intro a S
        refine d_pure (i := 10) #[true, true, true, true, true, true, true, true, true, true, true, false, false, false, false, false, false, false] S rfl (p_fieldAddr rfl (fun w => fa67_1 w _ _)) (wanted_none rfl) rfl rfl (by kernel_rfl) (fun _ _ _ h => h) ?_; clear S a; intro a S
        refine d_read (i := 11) #[true, true, true, true, true, true, true, true, true, true, true, true, false, false, false, false, false, false] S H rfl (r_load rfl List.mem_cons_self rfl (fun w hc => ld1 ag22 hc)) (wanted_none rfl) rfl rfl (by kernel_rfl) (fun _ _ _ h => h) ?_; clear S a; intro a S
        refine d_pure (i := 12) #[true, true, true, true, true, true, true, true, true, true, true, true, true, false, false, false, false, false] S rfl (p_len Tryd.underlying22 rfl) (wanted_none rfl) rfl rfl (by kernel_rfl) (fun _ _ _ h => h) ?_; clear S a; intro a S
        refine d_pure (i := 13) #[true, true, true, true, true, true, true, true, true, true, true, true, true, true, false, false, false, false] S rfl (p_rem rfl rfl (by omega) (nat_rem ap zs.length)) (wanted_none rfl) rfl rfl (by kernel_rfl) (fun _ _ _ h => h) ?_; clear S a; intro a S
        refine d_pure (i := 14) #[true, true, true, true, true, true, true, true, true, true, true, true, true, true, true, false, false, false] S rfl (p_indexAddr rfl rfl (fun w => ia_any Tryd.underlying22 sz3 (by omega) (by have := Nat.mod_lt ap (show 0 < zs.length by omega); omega))) (wanted_none rfl) rfl rfl (by kernel_rfl) (fun _ _ _ h => h) ?_; clear S a; intro a S
        refine d_read (i := 15) #[true, true, true, true, true, true, true, true, true, true, true, true, true, true, true, true, false, false] S H rfl (r_row (i := ap % zs.length) hC rfl (by rw [Int.toNat_natCast, Nat.mul_one]) (get_some 0 (Nat.mod_lt _ (by omega))) ag3 rfl) (wanted_none rfl) rfl rfl (by kernel_rfl) (fun _ _ _ h => h) ?_; clear S a; intro a S
        refine d_pure (i := 16) #[true, true, true, true, true, true, true, true, true, true, true, true, true, true, true, true, true, false] S rfl (p_max0 rfl rfl) (wanted_none rfl) rfl rfl (by kernel_rfl) (fun _ _ _ h => h) ?_; clear S a; intro a S
        refine d_pure (i := 17) #[true, true, true, true, true, true, true, true, true, true, true, true, true, true, true, true, true, true] S rfl (p_assign rfl) (wanted_none rfl) rfl rfl (by kernel_rfl) (fun _ _ _ h => h) ?_; clear S a; intro a S
        refine d_done (by kernel_rfl) ?_
        refine e_then ?_
        refine c_region ?_
        refine l_pure S (p_move rfl) rfl rfl rfl ?_; clear S a; intro a S
        refine l_pure S (p_nilCheck rfl) rfl rfl rfl ?_; clear S a; intro a S
        refine l_pure S (p_fieldAddr rfl (fun w => fa67_2 w _ _)) rfl rfl rfl ?_; clear S a; intro a S
        refine l_read S H (r_load rfl List.mem_cons_self rfl (fun w hc => ld1 ag3 hc)) rfl rfl rfl ?_; clear S a; intro a S
        refine l_pure S (p_add rfl rfl (nat_add (x := ap) (y := 1) (by omega))) rfl rfl rfl ?_; clear S a; intro a S
        refine l_pure S (p_nilCheck rfl) rfl rfl rfl ?_; clear S a; intro a S
        refine l_pure S (p_fieldAddr rfl (fun w => fa67_2 w _ _)) rfl rfl rfl ?_; clear S a; intro a S
        refine l_store S H rfl rfl rfl .here (by first | decide | simp [Value.cells]) (fun w u hc hz => st1 sz3 rfl hc hz) rfl rfl ?_; clear S a H; intro w a H S
        refine l_nil ?_
        refine e_then ?_
        have hz : zs ≠ [] := fun e => by subst e; simp at *
        exact ⟨(zs.getD (ap % zs.length) 0).toNat, (ap + 1), S.only ⟨rfl, rfl, rfl, trivial⟩, H, ⟨by rw [if_neg hz], by rw [if_neg hz]⟩⟩
      · skip
        have c12 := of_decide_eq_false c12
        refine wp_skip ?_
        refine e_then ?_
        exact ⟨s.size, ap, S.only ⟨rfl, rfl, rfl, trivial⟩, H, ⟨by rw [if_pos (List.length_eq_zero_iff.1 (by omega))], by rw [if_pos (List.length_eq_zero_iff.1 (by omega))]⟩⟩
end Go.Proofs.YtbahngfpadjbhaaDoor.dec
