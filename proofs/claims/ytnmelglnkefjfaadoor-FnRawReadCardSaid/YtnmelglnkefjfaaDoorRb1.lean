/- bufio's reader: so many bytes, where nothing more comes. -/
import Derived.Test.YtnmelglnkefjfaaDoorBu
import Derived.Test.YtnmelglnkefjfaaDoorRp
import Derived.Test.YtnmelglnkefjfaaDoorDg
namespace Go.Proofs.YtnmelglnkefjfaaDoor.rr
open Go.RowKit Go.Proofs.HHW Go.Proofs.YtnmelglnkefjfaaDoorW.PrintWords
set_option linter.unusedVariables false
set_option linter.unusedSimpArgs false
namespace rb
theorem ag3 : aggB Tryd.prog 3 = some false := by kernel_rfl
theorem ag4 : aggB Tryd.prog 4 = some false := by kernel_rfl
theorem ag49 : aggB Tryd.prog 49 = some false := by kernel_rfl
theorem ag5 : aggB Tryd.prog 5 = some false := by kernel_rfl
theorem ag52 : aggB Tryd.prog 52 = some false := by kernel_rfl
theorem ag55 : aggB Tryd.prog 55 = some false := by kernel_rfl
theorem ag9 : aggB Tryd.prog 9 = some false := by kernel_rfl
theorem fa153_0 (w : World) (g o : Nat) : (Instr.fieldAt 153 (.pointer (some ⟨g, o, none⟩)) 0).run Tryd.prog w = .ok (.pointer (some ⟨g, o + 0, none⟩)) w := by kernel_rfl
theorem fa153_1 (w : World) (g o : Nat) : (Instr.fieldAt 153 (.pointer (some ⟨g, o, none⟩)) 1).run Tryd.prog w = .ok (.pointer (some ⟨g, o + 1, none⟩)) w := by kernel_rfl
theorem fa153_2 (w : World) (g o : Nat) : (Instr.fieldAt 153 (.pointer (some ⟨g, o, none⟩)) 2).run Tryd.prog w = .ok (.pointer (some ⟨g, o + 2, none⟩)) w := by kernel_rfl
theorem fa153_3 (w : World) (g o : Nat) : (Instr.fieldAt 153 (.pointer (some ⟨g, o, none⟩)) 3).run Tryd.prog w = .ok (.pointer (some ⟨g, o + 3, none⟩)) w := by kernel_rfl
theorem fa153_4 (w : World) (g o : Nat) : (Instr.fieldAt 153 (.pointer (some ⟨g, o, none⟩)) 4).run Tryd.prog w = .ok (.pointer (some ⟨g, o + 4, none⟩)) w := by kernel_rfl
theorem fa153_5 (w : World) (g o : Nat) : (Instr.fieldAt 153 (.pointer (some ⟨g, o, none⟩)) 5).run Tryd.prog w = .ok (.pointer (some ⟨g, o + 5, none⟩)) w := by kernel_rfl
theorem fa153_6 (w : World) (g o : Nat) : (Instr.fieldAt 153 (.pointer (some ⟨g, o, none⟩)) 6).run Tryd.prog w = .ok (.pointer (some ⟨g, o + 6, none⟩)) w := by kernel_rfl
theorem fa86_0 (w : World) (g o : Nat) : (Instr.fieldAt 86 (.pointer (some ⟨g, o, none⟩)) 0).run Tryd.prog w = .ok (.pointer (some ⟨g, o + 0, none⟩)) w := by kernel_rfl
theorem fa86_3 (w : World) (g o : Nat) : (Instr.fieldAt 86 (.pointer (some ⟨g, o, none⟩)) 3).run Tryd.prog w = .ok (.pointer (some ⟨g, o + 3, none⟩)) w := by kernel_rfl
theorem sz3 : szB Tryd.prog 3 = some 1 := by kernel_rfl
theorem sz49 : szB Tryd.prog 49 = some 1 := by kernel_rfl
theorem sz5 : szB Tryd.prog 5 = some 1 := by kernel_rfl
theorem mi49 : Tryd.prog.underlying 49 = some (.interface (Tryd.prog.methodsAt 49)) := by kernel_rfl

theorem read0_ (wb w0 : World) (B : Nat) (L0 : dc.Bk) (gr : Nat) (s : ByteArray) (Az : Option Addr) (zs : List Int) (cz ap : Nat) (Ap : Option Addr) (np cp : Nat) (ae : Addr) (hE : wb.cell? ⟨0, 0, none⟩ = some (.iface 143 (.pointer (some ae)))) (hlt : 0 < B) (H : HH B wb w0 ((gr, .cells #[.string s, .slice Az zs.length cz, .int .i64 (ap : Int), .bool false] 86 (0, 0)) :: L0)) (hs : s.size = 0) : Calls Tryd.prog 115 #[.pointer (some ⟨gr, 0, none⟩), .slice Ap np cp] w0 fun e w' => e = .returned (.tuple #[.int .i64 0, .iface 143 (.pointer (some ae))]) ∧ HH B wb w' ((gr, .cells #[.string s, .slice Az zs.length cz, .int .i64 (ap : Int), .bool false] 86 (0, 0)) :: L0) := by
  refine c_enter (args := [.pointer (some ⟨gr, 0, none⟩), .slice Ap np cp]) (k := 81) Tryd.func115 rfl rfl rfl (fun a S => ?_)
  refine wp_seq ?_
  refine c_region ?_
  refine l_pure S (p_assign rfl) rfl rfl rfl ?_; clear S a; intro a S
  refine l_pure S (p_assign rfl) rfl rfl rfl ?_; clear S a; intro a S
  refine l_nil ?_
  refine e_then ?_
  refine wp_seq ?_
  refine wp_seq ?_
  refine c_region ?_
  refine l_pure S (p_move rfl) rfl rfl rfl ?_; clear S a; intro a S
  refine l_pure S (p_nilCheck rfl) rfl rfl rfl ?_; clear S a; intro a S
  refine l_pure S (p_fieldAddr rfl (fun w => fa86_0 w _ _)) rfl rfl rfl ?_; clear S a; intro a S
  refine l_read S H (r_load rfl List.mem_cons_self rfl (fun w hc => ld1 ag9 hc)) rfl rfl rfl ?_; clear S a; intro a S
  refine l_pure S (p_lens Tryd.underlying9 rfl) rfl rfl rfl ?_; clear S a; intro a S
  refine l_pure S (p_eql rfl rfl) rfl rfl rfl ?_; clear S a; intro a S
  refine l_pure S (p_move rfl) rfl rfl rfl ?_; clear S a; intro a S
  refine l_on S rfl rfl rfl rfl (show ((s.size : Int) == 0) = true from beq_iff_eq.2 (by omega)) ?_
  refine l_pure S (p_move rfl) rfl rfl rfl ?_; clear S a; intro a S
  refine l_on S rfl rfl rfl rfl (show ((s.size : Int) == 0) = true from beq_iff_eq.2 (by omega)) ?_
  refine l_pure S (p_nilCheck rfl) rfl rfl rfl ?_; clear S a; intro a S
  refine l_on S rfl rfl rfl rfl (show ((s.size : Int) == 0) = true from beq_iff_eq.2 (by omega)) ?_
  refine l_pure S (p_fieldAddr rfl (fun w => fa86_3 w _ _)) rfl rfl rfl ?_; clear S a; intro a S
  refine l_on S rfl rfl rfl rfl (show ((s.size : Int) == 0) = true from beq_iff_eq.2 (by omega)) ?_
  refine l_read S H (r_load rfl List.mem_cons_self rfl (fun w hc => ld1 ag4 hc)) rfl rfl rfl ?_; clear S a; intro a S
  refine l_pure S (p_pick_t rfl (show ((s.size : Int) == 0) = true from beq_iff_eq.2 (by omega)) rfl) rfl rfl rfl ?_; clear S a; intro a S
  refine l_nil ?_
  refine e_then ?_
  refine c_cond (b := false) S rfl (fun h => by cases h) (fun _ => ?_)
  refine wp_skip ?_
  refine e_then ?_
  refine wp_seq ?_
  refine wp_seq ?_
  refine c_region ?_
  refine l_pure S (p_move rfl) rfl rfl rfl ?_; clear S a; intro a S
  refine l_pure S (p_nilCheck rfl) rfl rfl rfl ?_; clear S a; intro a S
  refine l_pure S (p_fieldAddr rfl (fun w => fa86_0 w _ _)) rfl rfl rfl ?_; clear S a; intro a S
  refine l_read S H (r_load rfl List.mem_cons_self rfl (fun w hc => ld1 ag9 hc)) rfl rfl rfl ?_; clear S a; intro a S
  refine l_pure S (p_lens Tryd.underlying9 rfl) rfl rfl rfl ?_; clear S a; intro a S
  refine l_pure S (p_eql rfl rfl) rfl rfl rfl ?_; clear S a; intro a S
  refine l_nil ?_
  refine e_then ?_
  refine c_cond S rfl (fun _ => ?_) (fun h => by rw [(show ((s.size : Int) == 0) = true from beq_iff_eq.2 (by omega))] at h; cases h)
  refine wp_seq ?_
  refine d_start (id := 4) [] 3 #[false, false, false] H rfl rfl rfl (fun w H => ?_)
  refine d_read (i := 0) #[true, false, false] S H rfl (r_loadG rfl hE hlt ag49) (wanted_none rfl) rfl rfl (by kernel_rfl) (fun _ _ _ h => h) ?_; clear S a; intro a S
  refine d_pure (i := 1) #[true, true, false] S rfl (p_assign rfl) (wanted_none rfl) rfl rfl (by kernel_rfl) (fun _ _ _ h => h) ?_; clear S a; intro a S
  refine d_pure (i := 2) #[true, true, true] S rfl (p_assign rfl) (wanted_none rfl) rfl rfl (by kernel_rfl) (fun _ _ _ h => h) ?_; clear S a; intro a S
  refine d_done (by kernel_rfl) ?_
  refine e_then ?_
  refine wp_ret ?_
  refine e_then_ret ?_
  exact r_ret2 S rfl rfl rfl ⟨rfl, H⟩
set_option maxHeartbeats 2000000 in
theorem bread_ (wb w0 : World) (L0 : dc.Bk) (g gb gr : Nat) (cs : Array Value) (r : Nat) (vis : List Int) (s : ByteArray) (Az : Option Addr) (zs : List Int) (cz ap : Nat) (lb lr : Int) (gm o n cp : Nat) (cm : Array Value) (f : Nat × Nat) (ae : Addr) (hE : wb.cell? ⟨0, 0, none⟩ = some (.iface 143 (.pointer (some ae)))) (hlt : 0 < wb.heap.size) (H : HH wb.heap.size wb w0 ((g, .cells #[.slice (some ⟨gb, 0, none⟩) 4096 4096, .iface 42 (.pointer (some ⟨gr, 0, none⟩)), .int .i64 (r : Int), .int .i64 ((r + vis.length : Nat) : Int), .nilIface, .int .i64 lb, .int .i64 lr] 153 (0, 0)) :: (gb, .cells cs 5 (0, 0)) :: (gr, .cells #[.string s, .slice Az zs.length cz, .int .i64 (ap : Int), .bool false] 86 (0, 0)) :: (gm, .cells cm 5 f) :: L0)) (hcs : cs.size = 4096) (hrow : bf.Row cs r vis) (hw : r + vis.length ≤ 4096) (hs : s.size = 0) (hth : Thaw cm f) (ho : o + n ≤ cm.size) (hn0 : 0 < n) (hcp : n ≤ cp) (hn : n ≤ 10000000) : Calls Tryd.prog 125 #[.pointer (some ⟨g, 0, none⟩), .slice (some ⟨gm, o, none⟩) n cp] w0 fun e w' => (0 < vis.length ∧ e = .returned (.tuple #[.int .i64 ((min vis.length n) : Nat), .nilIface]) ∧ ∃ lb' : Int, bf.Row cs (r + (min vis.length n)) (vis.drop (min vis.length n)) ∧ r + (min vis.length n) + (vis.drop (min vis.length n)).length ≤ 4096 ∧ HH wb.heap.size wb w' ((g, .cells #[.slice (some ⟨gb, 0, none⟩) 4096 4096, .iface 42 (.pointer (some ⟨gr, 0, none⟩)), .int .i64 ((r + (min vis.length n) : Nat) : Int), .int .i64 ((r + (min vis.length n) + (vis.drop (min vis.length n)).length : Nat) : Int), .nilIface, .int .i64 lb', .int .i64 (-1)] 153 (0, 0)) :: (gb, .cells cs 5 (0, 0)) :: (gr, .cells #[.string s, .slice Az zs.length cz, .int .i64 (ap : Int), .bool false] 86 (0, 0)) :: (gm, .cells (spl cm o ((vis.take (min vis.length n)).map (Value.int .u8))) 5 f) :: L0)) ∨ (vis = [] ∧ e = .returned (.tuple #[.int .i64 0, .iface 143 (.pointer (some ae))]) ∧ ∃ r' : Nat, r' ≤ 4096 ∧ HH wb.heap.size wb w' ((g, .cells #[.slice (some ⟨gb, 0, none⟩) 4096 4096, .iface 42 (.pointer (some ⟨gr, 0, none⟩)), .int .i64 (r' : Int), .int .i64 ((r' + ([] : List Int).length : Nat) : Int), .nilIface, .int .i64 lb, .int .i64 lr] 153 (0, 0)) :: (gb, .cells cs 5 (0, 0)) :: (gr, .cells #[.string s, .slice Az zs.length cz, .int .i64 (ap : Int), .bool false] 86 (0, 0)) :: (gm, .cells cm 5 f) :: L0)) := by
  refine c_enter (args := [.pointer (some ⟨g, 0, none⟩), .slice (some ⟨gm, o, none⟩) n cp]) (k := 149) Tryd.func125 rfl rfl rfl (fun a S => ?_)
  refine wp_seq ?_
  refine c_region ?_
  refine l_pure S (p_assign rfl) rfl rfl rfl ?_; clear S a; intro a S
  refine l_pure S (p_assign rfl) rfl rfl rfl ?_; clear S a; intro a S
  refine l_nil ?_
  refine e_then ?_
  refine wp_seq ?_
  refine c_region ?_
  refine l_pure S (p_move rfl) rfl rfl rfl ?_; clear S a; intro a S
  refine l_pure S (p_len Tryd.underlying55 rfl) rfl rfl rfl ?_; clear S a; intro a S
  refine l_pure S (p_assign rfl) rfl rfl rfl ?_; clear S a; intro a S
  refine l_nil ?_
  refine e_then ?_
  refine wp_seq ?_
  refine wp_seq ?_
  refine c_region ?_
  refine l_pure S (p_move rfl) rfl rfl rfl ?_; clear S a; intro a S
  refine l_pure S (p_eql rfl rfl) rfl rfl rfl ?_; clear S a; intro a S
  refine l_nil ?_
  refine e_then ?_
  refine c_cond S rfl (fun c2 => by have c2 := eq_of_beq c2; exfalso; omega) (fun c2 => ?_)
  have c2 := ne_of_beq_false c2
  refine wp_skip ?_
  refine e_then ?_
  refine wp_seq ?_
  refine wp_seq ?_
  refine d_start (id := 6) [] 9 #[false, false, false, false, false, false, false, false, false] H rfl rfl rfl (fun w H => ?_)
  refine d_pure (i := 0) #[true, false, false, false, false, false, false, false, false] S rfl (p_move rfl) (wanted_none rfl) rfl rfl (by kernel_rfl) (fun _ _ _ h => h) ?_; clear S a; intro a S
  refine d_pure (i := 1) #[true, true, false, false, false, false, false, false, false] S rfl (p_nilCheck rfl) (wanted_none rfl) rfl rfl (by kernel_rfl) (fun _ _ _ h => h) ?_; clear S a; intro a S
  refine d_pure (i := 2) #[true, true, true, false, false, false, false, false, false] S rfl (p_fieldAddr rfl (fun w => fa153_2 w _ _)) (wanted_none rfl) rfl rfl (by kernel_rfl) (fun _ _ _ h => h) ?_; clear S a; intro a S
  refine d_read (i := 3) #[true, true, true, true, false, false, false, false, false] S H rfl (r_load rfl List.mem_cons_self rfl (fun w hc => ld1 ag3 hc)) (wanted_none rfl) rfl rfl (by kernel_rfl) (fun _ _ _ h => h) ?_; clear S a; intro a S
  refine d_pure (i := 4) #[true, true, true, true, true, false, false, false, false] S rfl (p_move rfl) (wanted_none rfl) rfl rfl (by kernel_rfl) (fun _ _ _ h => h) ?_; clear S a; intro a S
  refine d_pure (i := 5) #[true, true, true, true, true, true, false, false, false] S rfl (p_nilCheck rfl) (wanted_none rfl) rfl rfl (by kernel_rfl) (fun _ _ _ h => h) ?_; clear S a; intro a S
  refine d_pure (i := 6) #[true, true, true, true, true, true, true, false, false] S rfl (p_fieldAddr rfl (fun w => fa153_3 w _ _)) (wanted_none rfl) rfl rfl (by kernel_rfl) (fun _ _ _ h => h) ?_; clear S a; intro a S
  refine d_read (i := 7) #[true, true, true, true, true, true, true, true, false] S H rfl (r_load rfl List.mem_cons_self rfl (fun w hc => ld1 ag3 hc)) (wanted_none rfl) rfl rfl (by kernel_rfl) (fun _ _ _ h => h) ?_; clear S a; intro a S
  refine d_pure (i := 8) #[true, true, true, true, true, true, true, true, true] S rfl (p_eql rfl rfl) (wanted_none rfl) rfl rfl (by kernel_rfl) (fun _ _ _ h => h) ?_; clear S a; intro a S
  refine d_done (by kernel_rfl) ?_
  refine e_then ?_
  refine c_cond S rfl (fun bc4 => ?_) (fun bc4 => ?_)
  · skip
    have c4 := bc4
    have c4 := eq_of_beq c4
    obtain rfl : vis = [] := List.length_eq_zero_iff.1 (by omega)
    refine wp_seq ?_
    refine wp_seq ?_
    refine c_region ?_
    refine l_pure S (p_move rfl) rfl rfl rfl ?_; clear S a; intro a S
    refine l_pure S (p_nilCheck rfl) rfl rfl rfl ?_; clear S a; intro a S
    refine l_pure S (p_fieldAddr rfl (fun w => fa153_4 w _ _)) rfl rfl rfl ?_; clear S a; intro a S
    refine l_read S H (r_load rfl List.mem_cons_self rfl (fun w hc => ld1 ag49 hc)) rfl rfl rfl ?_; clear S a; intro a S
    refine l_pure S (p_nilnilN mi49 rfl) rfl rfl rfl ?_; clear S a; intro a S
    refine l_nil ?_
    refine e_then ?_
    refine c_cond (b := false) S rfl (fun h => by cases h) (fun _ => ?_)
    refine wp_skip ?_
    refine e_then ?_
    refine wp_seq ?_
    refine wp_seq ?_
    refine c_region ?_
    refine l_pure S (p_move rfl) rfl rfl rfl ?_; clear S a; intro a S
    refine l_pure S (p_len Tryd.underlying55 rfl) rfl rfl rfl ?_; clear S a; intro a S
    refine l_pure S (p_move rfl) rfl rfl rfl ?_; clear S a; intro a S
    refine l_pure S (p_nilCheck rfl) rfl rfl rfl ?_; clear S a; intro a S
    refine l_pure S (p_fieldAddr rfl (fun w => fa153_0 w _ _)) rfl rfl rfl ?_; clear S a; intro a S
    refine l_read S H (r_load rfl List.mem_cons_self rfl (fun w hc => ld1 ag55 hc)) rfl rfl rfl ?_; clear S a; intro a S
    refine l_pure S (p_len Tryd.underlying55 rfl) rfl rfl rfl ?_; clear S a; intro a S
    refine l_pure S (p_geq rfl rfl) rfl rfl rfl ?_; clear S a; intro a S
    refine l_nil ?_
    refine e_then ?_
    refine c_cond S rfl (fun bc8 => ?_) (fun bc8 => ?_)
    · skip
      have c8 := bc8
      have c8 := of_decide_eq_true c8
      refine wp_seq ?_
      refine c_region ?_
      refine l_pure S (p_move rfl) rfl rfl rfl ?_; clear S a; intro a S
      refine l_pure S (p_move rfl) rfl rfl rfl ?_; clear S a; intro a S
      refine l_pure S (p_nilCheck rfl) rfl rfl rfl ?_; clear S a; intro a S
      refine l_pure S (p_fieldAddr rfl (fun w => fa153_1 w _ _)) rfl rfl rfl ?_; clear S a; intro a S
      refine l_read S H (r_load rfl List.mem_cons_self rfl (fun w hc => ld1 ag52 hc)) rfl rfl rfl ?_; clear S a; intro a S
      refine l_pure S (p_move rfl) rfl rfl rfl ?_; clear S a; intro a S
      have hcon := read0_ wb _ _ _ gr s Az zs cz ap (some ⟨gm, o, none⟩) n cp ae hE hlt H.pull2 hs
      refine l_invoke S rfl rfl rfl (bu.meRead _ _) Tryd.func115 rfl rfl hcon rfl rfl rfl ?_
      rintro e w ⟨rfl, hH⟩
      refine ⟨_, rfl, ?_⟩; clear S a; intro a S; clear hcon H; have H := hH.perm ((List.perm_middle (l₁ := [_, _]) (a := (gr, _)) (l₂ := (gm, _) :: L0)).symm); clear hH
      refine l_pure S (p_move rfl) rfl rfl rfl ?_; clear S a; intro a S
      refine l_pure S (p_extract rfl rfl) rfl rfl rfl ?_; clear S a; intro a S
      refine l_pure S (p_extract rfl rfl) rfl rfl rfl ?_; clear S a; intro a S
      refine l_pure S (p_assign rfl) rfl rfl rfl ?_; clear S a; intro a S
      refine l_pure S (p_nilCheck rfl) rfl rfl rfl ?_; clear S a; intro a S
      refine l_pure S (p_fieldAddr rfl (fun w => fa153_4 w _ _)) rfl rfl rfl ?_; clear S a; intro a S
      refine l_store S H rfl rfl rfl .here (by first | decide | simp [Value.cells]) (fun w u hc hz => st1 sz49 rfl hc hz) rfl rfl ?_; clear S a H; intro w a H S
      refine l_nil ?_
      refine e_then ?_
      refine wp_seq ?_
      refine wp_seq ?_
      refine c_region ?_
      refine l_pure S (p_move rfl) rfl rfl rfl ?_; clear S a; intro a S
      refine l_pure S (p_lss rfl rfl) rfl rfl rfl ?_; clear S a; intro a S
      refine l_nil ?_
      refine e_then ?_
      refine c_cond (b := false) S rfl (fun h => by cases h) (fun _ => ?_)
      refine wp_skip ?_
      refine e_then ?_
      refine wp_seq ?_
      refine wp_seq ?_
      refine c_region ?_
      refine l_pure S (p_move rfl) rfl rfl rfl ?_; clear S a; intro a S
      refine l_pure S (p_gtr rfl rfl) rfl rfl rfl ?_; clear S a; intro a S
      refine l_nil ?_
      refine e_then ?_
      refine c_cond (b := false) S rfl (fun h => by cases h) (fun _ => ?_)
      refine wp_skip ?_
      refine e_then ?_
      refine wp_seq ?_
      refine c_region ?_
      refine l_pure S (p_move rfl) rfl rfl rfl ?_; clear S a; intro a S
      refine l_pure S (p_move rfl) rfl rfl rfl ?_; clear S a; intro a S
      have hcon := bu.readErr_ wb _ _ _ g gb gr r [] (.iface 143 (.pointer (some ae))) lb lr (by simpa using H)
      refine l_call S rfl rfl Tryd.func128 rfl rfl (hcon) rfl rfl rfl ?_
      rintro e w ⟨rfl, hH⟩
      refine ⟨_, rfl, ?_⟩; clear S a; intro a S
      clear H hcon; have H := hH; clear hH
      refine l_pure S (p_assign rfl) rfl rfl rfl ?_; clear S a; intro a S
      refine l_pure S (p_assign rfl) rfl rfl rfl ?_; clear S a; intro a S
      refine l_nil ?_
      refine e_then ?_
      refine wp_ret ?_
      refine e_then_ret ?_
      refine e_then_ret ?_
      exact r_ret2 S rfl rfl rfl (.inr ⟨rfl, rfl, r, by omega, by simpa using H⟩)
    · skip
      have c8 := bc8
      have c8 := of_decide_eq_false c8
      refine wp_skip ?_
      refine e_then ?_
      refine wp_seq ?_
      refine c_region ?_
      refine l_pure S (p_move rfl) rfl rfl rfl ?_; clear S a; intro a S
      refine l_pure S (p_nilCheck rfl) rfl rfl rfl ?_; clear S a; intro a S
      refine l_pure S (p_fieldAddr rfl (fun w => fa153_2 w _ _)) rfl rfl rfl ?_; clear S a; intro a S
      refine l_store S H rfl rfl rfl .here (by first | decide | simp [Value.cells]) (fun w u hc hz => st1 sz3 rfl hc hz) rfl rfl ?_; clear S a H; intro w a H S
      refine l_nil ?_
      refine e_then ?_
      refine wp_seq ?_
      refine c_region ?_
      refine l_pure S (p_move rfl) rfl rfl rfl ?_; clear S a; intro a S
      refine l_pure S (p_nilCheck rfl) rfl rfl rfl ?_; clear S a; intro a S
      refine l_pure S (p_fieldAddr rfl (fun w => fa153_3 w _ _)) rfl rfl rfl ?_; clear S a; intro a S
      refine l_store S H rfl rfl rfl .here (by first | decide | simp [Value.cells]) (fun w u hc hz => st1 sz3 rfl hc hz) rfl rfl ?_; clear S a H; intro w a H S
      refine l_nil ?_
      refine e_then ?_
      refine wp_seq ?_
      refine d_start (id := 19) [18] 19 #[false, false, false, false, false, false, false, false, false, false, false, false, false, false, false, false, false, false, false] H rfl rfl rfl (fun w H => ?_)
      refine d_pure (i := 0) #[true, false, false, false, false, false, false, false, false, false, false, false, false, false, false, false, false, false, false] S rfl (p_move rfl) (wanted_none rfl) rfl rfl (by kernel_rfl) (fun _ _ _ h => h) ?_; clear S a; intro a S
      refine d_pure (i := 1) #[true, true, false, false, false, false, false, false, false, false, false, false, false, false, false, false, false, false, false] S rfl (p_move rfl) (wanted_none rfl) rfl rfl (by kernel_rfl) (fun _ _ _ h => h) ?_; clear S a; intro a S
      refine d_pure (i := 2) #[true, true, true, false, false, false, false, false, false, false, false, false, false, false, false, false, false, false, false] S rfl (p_nilCheck rfl) (wanted_none rfl) rfl rfl (by kernel_rfl) (fun _ _ _ h => h) ?_; clear S a; intro a S
      refine d_pure (i := 3) #[true, true, true, true, false, false, false, false, false, false, false, false, false, false, false, false, false, false, false] S rfl (p_fieldAddr rfl (fun w => fa153_1 w _ _)) (wanted_none rfl) rfl rfl (by kernel_rfl) (fun _ _ _ h => h) ?_; clear S a; intro a S
      refine d_read (i := 4) #[true, true, true, true, true, false, false, false, false, false, false, false, false, false, false, false, false, false, false] S H rfl (r_load rfl List.mem_cons_self rfl (fun w hc => ld1 ag52 hc)) (wanted_none rfl) rfl rfl (by kernel_rfl) (fun _ _ _ h => h) ?_; clear S a; intro a S
      refine d_pure (i := 5) #[true, true, true, true, true, true, false, false, false, false, false, false, false, false, false, false, false, false, false] S rfl (p_move rfl) (wanted_none rfl) rfl rfl (by kernel_rfl) (fun _ _ _ h => h) ?_; clear S a; intro a S
      refine d_pure (i := 6) #[true, true, true, true, true, true, true, false, false, false, false, false, false, false, false, false, false, false, false] S rfl (p_nilCheck rfl) (wanted_none rfl) rfl rfl (by kernel_rfl) (fun _ _ _ h => h) ?_; clear S a; intro a S
      refine d_pure (i := 7) #[true, true, true, true, true, true, true, true, false, false, false, false, false, false, false, false, false, false, false] S rfl (p_fieldAddr rfl (fun w => fa153_0 w _ _)) (wanted_none rfl) rfl rfl (by kernel_rfl) (fun _ _ _ h => h) ?_; clear S a; intro a S
      refine d_read (i := 8) #[true, true, true, true, true, true, true, true, true, false, false, false, false, false, false, false, false, false, false] S H rfl (r_load rfl List.mem_cons_self rfl (fun w hc => ld1 ag55 hc)) (wanted_none rfl) rfl rfl (by kernel_rfl) (fun _ _ _ h => h) ?_; clear S a; intro a S
      refine d_pure (i := 9) #[true, true, true, true, true, true, true, true, true, true, false, false, false, false, false, false, false, false, false] S rfl (p_nilCheckI rfl) (wanted_none rfl) rfl rfl (by kernel_rfl) (fun _ _ _ h => h) ?_; clear S a; intro a S
      refine d_pure (i := 10) #[true, true, true, true, true, true, true, true, true, true, true, false, false, false, false, false, false, false, false] S rfl (p_move rfl) (wanted_none rfl) rfl rfl (by kernel_rfl) (fun _ _ _ h => h) ?_; clear S a; intro a S
      have hcon := read0_ wb _ _ _ gr s Az zs cz ap (some ⟨gb, 0, none⟩) 4096 4096 ae hE hlt H.pull2 hs
      refine d_invoke (i := 11) #[true, true, true, true, true, true, true, true, true, true, true, true, false, false, false, false, false, false, false] S rfl rfl rfl rfl (bu.meRead _ _) Tryd.func115 rfl rfl hcon (wanted_none rfl) rfl rfl (by kernel_rfl) rfl ?_
      rintro e w ⟨rfl, hH⟩
      clear hcon H; have H := hH.perm ((List.perm_middle (l₁ := [_, _]) (a := (gr, _)) (l₂ := (gm, _) :: L0)).symm); clear hH; refine ⟨_, rfl, H, ?_⟩; clear S a; intro a S
      refine d_pure (i := 12) #[true, true, true, true, true, true, true, true, true, true, true, true, true, false, false, false, false, false, false] S rfl (p_move rfl) (wanted_none rfl) rfl rfl (by kernel_rfl) (fun _ _ _ h => h) ?_; clear S a; intro a S
      refine d_pure (i := 13) #[true, true, true, true, true, true, true, true, true, true, true, true, true, true, false, false, false, false, false] S rfl (p_extract rfl rfl) (wanted_none rfl) rfl rfl (by kernel_rfl) (fun _ _ _ h => h) ?_; clear S a; intro a S
      refine d_pure (i := 14) #[true, true, true, true, true, true, true, true, true, true, true, true, true, true, true, false, false, false, false] S rfl (p_extract rfl rfl) (wanted_none rfl) rfl rfl (by kernel_rfl) (fun _ _ _ h => h) ?_; clear S a; intro a S
      refine d_pure (i := 15) #[true, true, true, true, true, true, true, true, true, true, true, true, true, true, true, true, false, false, false] S rfl (p_assign rfl) (wanted_none rfl) rfl rfl (by kernel_rfl) (fun _ _ _ h => h) ?_; clear S a; intro a S
      refine d_pure (i := 16) #[true, true, true, true, true, true, true, true, true, true, true, true, true, true, true, true, true, false, false] S rfl (p_nilCheck rfl) (wanted_none rfl) rfl rfl (by kernel_rfl) (fun _ _ _ h => h) ?_; clear S a; intro a S
      refine d_pure (i := 17) #[true, true, true, true, true, true, true, true, true, true, true, true, true, true, true, true, true, true, false] S rfl (p_fieldAddr rfl (fun w => fa153_4 w _ _)) (wanted_none rfl) rfl rfl (by kernel_rfl) (fun _ _ _ h => h) ?_; clear S a; intro a S
      refine d_store (i := 18) #[true, true, true, true, true, true, true, true, true, true, true, true, true, true, true, true, true, true, true] S H rfl rfl rfl rfl .here (by first | decide | simp [Value.cells]) (fun w u hc hz => st1 sz49 rfl hc hz) (wanted_none rfl) rfl (by kernel_rfl) rfl ?_; clear S a H; intro w a H S
      refine d_done (by kernel_rfl) ?_
      refine e_then ?_
      refine wp_seq ?_
      refine wp_seq ?_
      refine c_region ?_
      refine l_pure S (p_move rfl) rfl rfl rfl ?_; clear S a; intro a S
      refine l_pure S (p_lss rfl rfl) rfl rfl rfl ?_; clear S a; intro a S
      refine l_nil ?_
      refine e_then ?_
      refine c_cond (b := false) S rfl (fun h => by cases h) (fun _ => ?_)
      refine wp_skip ?_
      refine e_then ?_
      refine wp_seq ?_
      refine wp_seq ?_
      refine c_region ?_
      refine l_pure S (p_move rfl) rfl rfl rfl ?_; clear S a; intro a S
      refine l_pure S (p_eql rfl rfl) rfl rfl rfl ?_; clear S a; intro a S
      refine l_nil ?_
      refine e_then ?_
      refine c_cond (b := true) S rfl (fun _ => ?_) (fun h => by cases h)
      refine wp_seq ?_
      refine c_region ?_
      refine l_pure S (p_move rfl) rfl rfl rfl ?_; clear S a; intro a S
      have hcon := bu.readErr_ wb _ _ _ g gb gr 0 [] (.iface 143 (.pointer (some ae))) lb lr (by simpa using H)
      refine l_call S rfl rfl Tryd.func128 rfl rfl (hcon) rfl rfl rfl ?_
      rintro e w ⟨rfl, hH⟩
      refine ⟨_, rfl, ?_⟩; clear S a; intro a S
      clear H hcon; have H := hH; clear hH
      refine l_pure S (p_assign rfl) rfl rfl rfl ?_; clear S a; intro a S
      refine l_pure S (p_assign rfl) rfl rfl rfl ?_; clear S a; intro a S
      refine l_nil ?_
      refine e_then ?_
      refine wp_ret ?_
      refine e_then_ret ?_
      refine e_then_ret ?_
      exact r_ret2 S rfl rfl rfl (.inr ⟨rfl, rfl, 0, by omega, by simpa using H⟩)
  · skip
    have c4 := bc4
    have c4 := ne_of_beq_false c4
    have hv0 : 0 < vis.length := by omega
    refine wp_skip ?_
    refine e_then ?_
    refine wp_seq ?_
    refine d_start (id := 25) [14] 16 #[false, false, false, false, false, false, false, false, false, false, false, false, false, false, false, false] H rfl rfl rfl (fun w H => ?_)
    refine d_pure (i := 0) #[true, false, false, false, false, false, false, false, false, false, false, false, false, false, false, false] S rfl (p_move rfl) (wanted_none rfl) rfl rfl (by kernel_rfl) (fun _ _ _ h => h) ?_; clear S a; intro a S
    refine d_pure (i := 1) #[true, true, false, false, false, false, false, false, false, false, false, false, false, false, false, false] S rfl (p_move rfl) (wanted_none rfl) rfl rfl (by kernel_rfl) (fun _ _ _ h => h) ?_; clear S a; intro a S
    refine d_pure (i := 2) #[true, true, true, false, false, false, false, false, false, false, false, false, false, false, false, false] S rfl (p_nilCheck rfl) (wanted_none rfl) rfl rfl (by kernel_rfl) (fun _ _ _ h => h) ?_; clear S a; intro a S
    refine d_pure (i := 3) #[true, true, true, true, false, false, false, false, false, false, false, false, false, false, false, false] S rfl (p_fieldAddr rfl (fun w => fa153_0 w _ _)) (wanted_none rfl) rfl rfl (by kernel_rfl) (fun _ _ _ h => h) ?_; clear S a; intro a S
    refine d_read (i := 4) #[true, true, true, true, true, false, false, false, false, false, false, false, false, false, false, false] S H rfl (r_load rfl List.mem_cons_self rfl (fun w hc => ld1 ag55 hc)) (wanted_none rfl) rfl rfl (by kernel_rfl) (fun _ _ _ h => h) ?_; clear S a; intro a S
    refine d_pure (i := 5) #[true, true, true, true, true, true, false, false, false, false, false, false, false, false, false, false] S rfl (p_move rfl) (wanted_none rfl) rfl rfl (by kernel_rfl) (fun _ _ _ h => h) ?_; clear S a; intro a S
    refine d_pure (i := 6) #[true, true, true, true, true, true, true, false, false, false, false, false, false, false, false, false] S rfl (p_nilCheck rfl) (wanted_none rfl) rfl rfl (by kernel_rfl) (fun _ _ _ h => h) ?_; clear S a; intro a S
    refine d_pure (i := 7) #[true, true, true, true, true, true, true, true, false, false, false, false, false, false, false, false] S rfl (p_fieldAddr rfl (fun w => fa153_2 w _ _)) (wanted_none rfl) rfl rfl (by kernel_rfl) (fun _ _ _ h => h) ?_; clear S a; intro a S
    refine d_read (i := 8) #[true, true, true, true, true, true, true, true, true, false, false, false, false, false, false, false] S H rfl (r_load rfl List.mem_cons_self rfl (fun w hc => ld1 ag3 hc)) (wanted_none rfl) rfl rfl (by kernel_rfl) (fun _ _ _ h => h) ?_; clear S a; intro a S
    refine d_pure (i := 9) #[true, true, true, true, true, true, true, true, true, true, false, false, false, false, false, false] S rfl (p_move rfl) (wanted_none rfl) rfl rfl (by kernel_rfl) (fun _ _ _ h => h) ?_; clear S a; intro a S
    refine d_pure (i := 10) #[true, true, true, true, true, true, true, true, true, true, true, false, false, false, false, false] S rfl (p_nilCheck rfl) (wanted_none rfl) rfl rfl (by kernel_rfl) (fun _ _ _ h => h) ?_; clear S a; intro a S
    refine d_pure (i := 11) #[true, true, true, true, true, true, true, true, true, true, true, true, false, false, false, false] S rfl (p_fieldAddr rfl (fun w => fa153_3 w _ _)) (wanted_none rfl) rfl rfl (by kernel_rfl) (fun _ _ _ h => h) ?_; clear S a; intro a S
    refine d_read (i := 12) #[true, true, true, true, true, true, true, true, true, true, true, true, true, false, false, false] S H rfl (r_load rfl List.mem_cons_self rfl (fun w hc => ld1 ag3 hc)) (wanted_none rfl) rfl rfl (by kernel_rfl) (fun _ _ _ h => h) ?_; clear S a; intro a S
    refine d_pure (i := 13) #[true, true, true, true, true, true, true, true, true, true, true, true, true, true, false, false] S rfl (p_slice rfl (o_some rfl) (o_some rfl) (fun _ _ => o_none) (fun w => bf.sl_cut (m := r) (h := r + vis.length) Tryd.underlying55 sz5 rfl rfl (by omega) (by omega))) (wanted_none rfl) rfl rfl (by kernel_rfl) (fun _ _ _ h => h) ?_; clear S a; intro a S
    rw [show r + vis.length - r = vis.length by omega] at S
    refine d_copyF (i := 14) #[true, true, true, true, true, true, true, true, true, true, true, true, true, true, true, false] S H rfl rfl rfl rfl Tryd.underlying55 sz5 hth (bf.first_cut H (List.mem_cons_of_mem _ List.mem_cons_self) hrow (fun e => List.length_eq_zero_iff.1 (by omega))) (by omega) (show Nat.min vis.length n = min vis.length n from rfl) (.there (.there (.there .here))) (wanted_none rfl) rfl rfl (by kernel_rfl) rfl ?_; clear S a H; intro w a H S
    refine d_pure (i := 15) #[true, true, true, true, true, true, true, true, true, true, true, true, true, true, true, true] S rfl (p_assign rfl) (wanted_none rfl) rfl rfl (by kernel_rfl) (fun _ _ _ h => h) ?_; clear S a; intro a S
    refine d_done (by kernel_rfl) ?_
    refine e_then ?_
    refine wp_seq ?_
    refine c_region ?_
    refine l_pure S (p_move rfl) rfl rfl rfl ?_; clear S a; intro a S
    refine l_pure S (p_nilCheck rfl) rfl rfl rfl ?_; clear S a; intro a S
    refine l_pure S (p_fieldAddr rfl (fun w => fa153_2 w _ _)) rfl rfl rfl ?_; clear S a; intro a S
    refine l_read S H (r_load rfl List.mem_cons_self rfl (fun w hc => ld1 ag3 hc)) rfl rfl rfl ?_; clear S a; intro a S
    refine l_pure S (p_move rfl) rfl rfl rfl ?_; clear S a; intro a S
    refine l_pure S (p_add rfl rfl (nat_add (x := r) (y := (min vis.length n)) (by omega))) rfl rfl rfl ?_; clear S a; intro a S
    refine l_pure S (p_nilCheck rfl) rfl rfl rfl ?_; clear S a; intro a S
    refine l_pure S (p_fieldAddr rfl (fun w => fa153_2 w _ _)) rfl rfl rfl ?_; clear S a; intro a S
    refine l_store S H rfl rfl rfl .here (by first | decide | simp [Value.cells]) (fun w u hc hz => st1 sz3 rfl hc hz) rfl rfl ?_; clear S a H; intro w a H S
    refine l_nil ?_
    refine e_then ?_
    refine wp_seq ?_
    refine d_start (id := 27) [15] 16 #[false, false, false, false, false, false, false, false, false, false, false, false, false, false, false, false] H rfl rfl rfl (fun w H => ?_)
    refine d_pure (i := 0) #[true, false, false, false, false, false, false, false, false, false, false, false, false, false, false, false] S rfl (p_move rfl) (wanted_none rfl) rfl rfl (by kernel_rfl) (fun _ _ _ h => h) ?_; clear S a; intro a S
    refine d_pure (i := 1) #[true, true, false, false, false, false, false, false, false, false, false, false, false, false, false, false] S rfl (p_move rfl) (wanted_none rfl) rfl rfl (by kernel_rfl) (fun _ _ _ h => h) ?_; clear S a; intro a S
    refine d_pure (i := 2) #[true, true, true, false, false, false, false, false, false, false, false, false, false, false, false, false] S rfl (p_nilCheck rfl) (wanted_none rfl) rfl rfl (by kernel_rfl) (fun _ _ _ h => h) ?_; clear S a; intro a S
    refine d_pure (i := 3) #[true, true, true, true, false, false, false, false, false, false, false, false, false, false, false, false] S rfl (p_fieldAddr rfl (fun w => fa153_0 w _ _)) (wanted_none rfl) rfl rfl (by kernel_rfl) (fun _ _ _ h => h) ?_; clear S a; intro a S
    refine d_read (i := 4) #[true, true, true, true, true, false, false, false, false, false, false, false, false, false, false, false] S H rfl (r_load rfl List.mem_cons_self rfl (fun w hc => ld1 ag55 hc)) (wanted_none rfl) rfl rfl (by kernel_rfl) (fun _ _ _ h => h) ?_; clear S a; intro a S
    refine d_pure (i := 5) #[true, true, true, true, true, true, false, false, false, false, false, false, false, false, false, false] S rfl (p_move rfl) (wanted_none rfl) rfl rfl (by kernel_rfl) (fun _ _ _ h => h) ?_; clear S a; intro a S
    refine d_pure (i := 6) #[true, true, true, true, true, true, true, false, false, false, false, false, false, false, false, false] S rfl (p_nilCheck rfl) (wanted_none rfl) rfl rfl (by kernel_rfl) (fun _ _ _ h => h) ?_; clear S a; intro a S
    refine d_pure (i := 7) #[true, true, true, true, true, true, true, true, false, false, false, false, false, false, false, false] S rfl (p_fieldAddr rfl (fun w => fa153_2 w _ _)) (wanted_none rfl) rfl rfl (by kernel_rfl) (fun _ _ _ h => h) ?_; clear S a; intro a S
    refine d_read (i := 8) #[true, true, true, true, true, true, true, true, true, false, false, false, false, false, false, false] S H rfl (r_load rfl List.mem_cons_self rfl (fun w hc => ld1 ag3 hc)) (wanted_none rfl) rfl rfl (by kernel_rfl) (fun _ _ _ h => h) ?_; clear S a; intro a S
    refine d_pure (i := 9) #[true, true, true, true, true, true, true, true, true, true, false, false, false, false, false, false] S rfl (p_sub rfl rfl (nat_sub (x := (r + (min vis.length n))) (y := 1) (by omega) (by omega))) (wanted_none rfl) rfl rfl (by kernel_rfl) (fun _ _ _ h => h) ?_; clear S a; intro a S
    refine d_pure (i := 10) #[true, true, true, true, true, true, true, true, true, true, true, false, false, false, false, false] S rfl (p_indexAddr rfl rfl (fun w => ia_slice Tryd.underlying55 sz5 (by omega) (by omega))) (wanted_none rfl) rfl rfl (by kernel_rfl) (fun _ _ _ h => h) ?_; clear S a; intro a S
    obtain ⟨vb, hvb⟩ : ∃ vb, vis[min vis.length n - 1]? = some vb := ⟨_, get_some 0 (by omega)⟩
    refine d_read (i := 11) #[true, true, true, true, true, true, true, true, true, true, true, true, false, false, false, false] S H rfl (r_load (v := .int .u8 vb) rfl (List.mem_cons_of_mem _ List.mem_cons_self) (by rw [Int.toNat_natCast, Nat.mul_one, Nat.zero_add, show r + min vis.length n - 1 = r + (min vis.length n - 1) by omega]; exact hrow _ _ hvb) (fun w hc => ld1 ag5 hc)) (wanted_none rfl) rfl rfl (by kernel_rfl) (fun _ _ _ h => h) ?_; clear S a; intro a S
    refine d_pure (i := 12) #[true, true, true, true, true, true, true, true, true, true, true, true, true, false, false, false] S rfl (p_conv rfl (fun w => cv_int Tryd.underlying5 Tryd.underlying3 rfl)) (wanted_none rfl) rfl rfl (by kernel_rfl) (fun _ _ _ h => h) ?_; clear S a; intro a S
    refine d_pure (i := 13) #[true, true, true, true, true, true, true, true, true, true, true, true, true, true, false, false] S rfl (p_nilCheck rfl) (wanted_none rfl) rfl rfl (by kernel_rfl) (fun _ _ _ h => h) ?_; clear S a; intro a S
    refine d_pure (i := 14) #[true, true, true, true, true, true, true, true, true, true, true, true, true, true, true, false] S rfl (p_fieldAddr rfl (fun w => fa153_5 w _ _)) (wanted_none rfl) rfl rfl (by kernel_rfl) (fun _ _ _ h => h) ?_; clear S a; intro a S
    refine d_store (i := 15) #[true, true, true, true, true, true, true, true, true, true, true, true, true, true, true, true] S H rfl rfl rfl rfl .here (by first | decide | simp [Value.cells]) (fun w u hc hz => st1 sz3 rfl hc hz) (wanted_none rfl) rfl (by kernel_rfl) rfl ?_; clear S a H; intro w a H S
    refine d_done (by kernel_rfl) ?_
    refine e_then ?_
    refine wp_seq ?_
    refine c_region ?_
    refine l_pure S (p_move rfl) rfl rfl rfl ?_; clear S a; intro a S
    refine l_pure S (p_nilCheck rfl) rfl rfl rfl ?_; clear S a; intro a S
    refine l_pure S (p_fieldAddr rfl (fun w => fa153_6 w _ _)) rfl rfl rfl ?_; clear S a; intro a S
    refine l_store S H rfl rfl rfl .here (by first | decide | simp [Value.cells]) (fun w u hc hz => st1 sz3 rfl hc hz) rfl rfl ?_; clear S a H; intro w a H S
    refine l_nil ?_
    refine e_then ?_
    refine wp_seq ?_
    refine c_region ?_
    refine l_pure S (p_move rfl) rfl rfl rfl ?_; clear S a; intro a S
    refine l_pure S (p_assign rfl) rfl rfl rfl ?_; clear S a; intro a S
    refine l_pure S (p_assign rfl) rfl rfl rfl ?_; clear S a; intro a S
    refine l_nil ?_
    refine e_then ?_
    refine wp_ret ?_
    rw [show r + vis.length = r + min vis.length n + (vis.drop (min vis.length n)).length by rw [List.length_drop]; omega, ← List.map_take] at H
    exact r_ret2 S rfl rfl rfl (.inl ⟨hv0, rfl, _, bf.row_drop hrow, by rw [List.length_drop]; omega, H⟩)
end rb
end Go.Proofs.YtnmelglnkefjfaaDoor.rr
