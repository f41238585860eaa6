/- The decoder reads on. -/
import Derived.Test.YtbahngfpadjbhaaDoorGm
namespace Go.Proofs.YtbahngfpadjbhaaDoor.dec
open Go.RowKit Go.Proofs.HHW Go.Proofs.YtbahngfpadjbhaaDoorW.PrintWords
set_option linter.unusedVariables false
set_option linter.unusedSimpArgs false
namespace gm
theorem meRead (w : World) (ad : Addr) : (method (Tryd.prog.types.size + Made.depth) 47 (.pointer (some ad)) "Read").run Tryd.prog w = .ok (100, .pointer (some ad)) w := by kernel_rfl
theorem mi42 : Tryd.prog.underlying 42 = some (.interface (Tryd.prog.methodsAt 42)) := by kernel_rfl
theorem inf89 : (Tryd.prog.info? 89).map (fun i => i.comparable) = some true := by kernel_rfl
theorem szE : (szB Tryd.prog 91).isSome = true := by kernel_rfl
theorem ag3 : aggB Tryd.prog 3 = some false := by kernel_rfl
theorem ag32 : aggB Tryd.prog 32 = some false := by kernel_rfl
theorem ag4 : aggB Tryd.prog 4 = some false := by kernel_rfl
theorem ag42 : aggB Tryd.prog 42 = some false := by kernel_rfl
theorem ag51 : aggB Tryd.prog 51 = some false := by kernel_rfl
theorem fa54_0 (w : World) (g o : Nat) : (Instr.fieldAt 54 (.pointer (some ⟨g, o, none⟩)) 0).run Tryd.prog w = .ok (.pointer (some ⟨g, o + 0, none⟩)) w := by kernel_rfl
theorem fa54_1 (w : World) (g o : Nat) : (Instr.fieldAt 54 (.pointer (some ⟨g, o, none⟩)) 1).run Tryd.prog w = .ok (.pointer (some ⟨g, o + 1, none⟩)) w := by kernel_rfl
theorem fa54_2 (w : World) (g o : Nat) : (Instr.fieldAt 54 (.pointer (some ⟨g, o, none⟩)) 2).run Tryd.prog w = .ok (.pointer (some ⟨g, o + 2, none⟩)) w := by kernel_rfl
theorem fa54_3 (w : World) (g o : Nat) : (Instr.fieldAt 54 (.pointer (some ⟨g, o, none⟩)) 3).run Tryd.prog w = .ok (.pointer (some ⟨g, o + 3, none⟩)) w := by kernel_rfl
theorem fa54_4 (w : World) (g o : Nat) : (Instr.fieldAt 54 (.pointer (some ⟨g, o, none⟩)) 4).run Tryd.prog w = .ok (.pointer (some ⟨g, o + 4, none⟩)) w := by kernel_rfl
theorem sz3 : szB Tryd.prog 3 = some 1 := by kernel_rfl
theorem sz32 : szB Tryd.prog 32 = some 1 := by kernel_rfl
theorem sz4 : szB Tryd.prog 4 = some 1 := by kernel_rfl
theorem sz5 : szB Tryd.prog 5 = some 1 := by kernel_rfl
theorem in5 : (Tryd.prog.info? 5).map (fun i => (i.zero, i.size, i.bytes)) = some (some (.int .u8 0), 1, 1) := by kernel_rfl
set_option maxHeartbeats 2000000 in
theorem readMore_ (wb w0 : World) (D L0 : dc.Bk) (g : Nat) (X : List Int) (p v : Nat) (M : Nat) (sec : Int) (sk : Bool) (eb : Value) (line : Nat) (er : Value) (hD : dc.Dec TY wb g X p v false M sec sk eb line er D) (H : HH wb.heap.size wb w0 (D ++ L0)) (ae : Addr) (hE : wb.cell? ⟨2, 0, none⟩ = some (.iface 89 (.pointer (some ae)))) (hlt : 2 < wb.heap.size) : Calls Tryd.prog 66 #[.pointer (some ⟨g, 0, none⟩)] w0 fun e w' => e = .returned (.tuple #[]) ∧ ∃ v' cm' M' D', dc.Dec TY wb g X p v' cm' M' sec sk eb line er D' ∧ ∃ G, HH wb.heap.size wb w' (D' ++ (G ++ L0)) ∧ dc.Keeps D D' G ∧ v ≤ v' ∧ (cm' = true ∨ M' < M) := by
  obtain ⟨rd, A, l, c, r0, mb, mr, hDe, hbuf, hrd, hr0, hvX, hdr, hsz, hpX⟩ := hD
  have hVis := fun gt ot t => dc.vis_buf (gt := gt) (ot := ot) (t := t) hDe hbuf
  rw [hDe] at H
  clear hDe
  replace H := dc.open_.1 H
  rcases hrd with ⟨h, _⟩ | ⟨_, gr, s, Az, zs, cz, ap, rfl, hX, rfl, hC, hzc, hpg, haM⟩
  · cases h
  obtain ⟨hlc, hcb, _⟩ := id hbuf
  replace hcb := hcb rfl
  replace H : HH wb.heap.size wb w0 ((g, _) :: (mb ++ ((gr, _) :: L0))) := H
  refine c_enter (args := [.pointer (some ⟨g, 0, none⟩)]) (k := 129) Tryd.func66 rfl rfl rfl (fun a S => ?_)
  refine wp_seq ?_
  refine wp_seq ?_
  refine c_region ?_
  refine l_pure S (p_move rfl) rfl rfl rfl ?_; clear S a; intro a S
  refine l_pure S (p_nilCheck rfl) rfl rfl rfl ?_; clear S a; intro a S
  refine l_pure S (p_fieldAddr rfl (fun w => fa54_4 w _ _)) rfl rfl rfl ?_; clear S a; intro a S
  refine l_read S H (r_load rfl List.mem_cons_self rfl (fun w hc => ld1 ag4 hc)) rfl rfl rfl ?_; clear S a; intro a S
  refine l_nil ?_
  refine e_then ?_
  refine c_cond (b := false) S rfl (fun h => by cases h) (fun _ => ?_)
  refine wp_skip ?_
  refine e_then ?_
  refine wp_seq ?_
  refine d_start (id := 1) [] 12 #[false, false, false, false, false, false, false, false, false, false, false, false] H rfl rfl rfl (fun w H => ?_)
  refine d_pure (i := 0) #[true, false, false, false, false, false, false, false, false, false, false, false] S rfl (p_move rfl) (wanted_none rfl) rfl rfl (by kernel_rfl) (fun _ _ _ h => h) ?_; clear S a; intro a S
  refine d_pure (i := 1) #[true, true, false, false, false, false, false, false, false, false, false, false] S rfl (p_nilCheck rfl) (wanted_none rfl) rfl rfl (by kernel_rfl) (fun _ _ _ h => h) ?_; clear S a; intro a S
  refine d_pure (i := 2) #[true, true, true, false, false, false, false, false, false, false, false, false] S rfl (p_fieldAddr rfl (fun w => fa54_1 w _ _)) (wanted_none rfl) rfl rfl (by kernel_rfl) (fun _ _ _ h => h) ?_; clear S a; intro a S
  refine d_read (i := 3) #[true, true, true, true, false, false, false, false, false, false, false, false] S H rfl (r_load rfl List.mem_cons_self rfl (fun w hc => ld1 ag32 hc)) (wanted_none rfl) rfl rfl (by kernel_rfl) (fun _ _ _ h => h) ?_; clear S a; intro a S
  refine d_pure (i := 4) #[true, true, true, true, true, false, false, false, false, false, false, false] S rfl (p_cap Tryd.underlying32 rfl) (wanted_none rfl) rfl rfl (by kernel_rfl) (fun _ _ _ h => h) ?_; clear S a; intro a S
  refine d_pure (i := 5) #[true, true, true, true, true, true, false, false, false, false, false, false] S rfl (p_move rfl) (wanted_none rfl) rfl rfl (by kernel_rfl) (fun _ _ _ h => h) ?_; clear S a; intro a S
  refine d_pure (i := 6) #[true, true, true, true, true, true, true, false, false, false, false, false] S rfl (p_nilCheck rfl) (wanted_none rfl) rfl rfl (by kernel_rfl) (fun _ _ _ h => h) ?_; clear S a; intro a S
  refine d_pure (i := 7) #[true, true, true, true, true, true, true, true, false, false, false, false] S rfl (p_fieldAddr rfl (fun w => fa54_1 w _ _)) (wanted_none rfl) rfl rfl (by kernel_rfl) (fun _ _ _ h => h) ?_; clear S a; intro a S
  refine d_read (i := 8) #[true, true, true, true, true, true, true, true, true, false, false, false] S H rfl (r_load rfl List.mem_cons_self rfl (fun w hc => ld1 ag32 hc)) (wanted_none rfl) rfl rfl (by kernel_rfl) (fun _ _ _ h => h) ?_; clear S a; intro a S
  refine d_pure (i := 9) #[true, true, true, true, true, true, true, true, true, true, false, false] S rfl (p_len Tryd.underlying32 rfl) (wanted_none rfl) rfl rfl (by kernel_rfl) (fun _ _ _ h => h) ?_; clear S a; intro a S
  refine d_pure (i := 10) #[true, true, true, true, true, true, true, true, true, true, true, false] S rfl (p_sub rfl rfl (nat_sub (x := c) (y := l.length) (by omega) (by omega))) (wanted_none rfl) rfl rfl (by kernel_rfl) (fun _ _ _ h => h) ?_; clear S a; intro a S
  refine d_pure (i := 11) #[true, true, true, true, true, true, true, true, true, true, true, true] S rfl (p_assign rfl) (wanted_none rfl) rfl rfl (by kernel_rfl) (fun _ _ _ h => h) ?_; clear S a; intro a S
  refine d_done (by kernel_rfl) ?_
  refine e_then ?_
  refine c_cut (fun a w => ∃ l1 : List Int, ∃ r1 : Nat, ∃ c1 : Nat, ∃ gb : Nat, ∃ cs1 : Array Value, ∃ G : dc.Bk, SL a 130 [] [(0, .pointer (some ⟨g, 0, none⟩))] ∧ HH (wb.heap.size) wb w ((g, .cells #[.iface 47 (.pointer (some ⟨gr, 0, none⟩)), .slice (some ⟨gb, 0, none⟩) l1.length c1, .int .i64 (r1 : Int), .int .i64 ((r1 + p : Nat) : Int), .bool false, .int .u8 sec, .bool sk, eb, .int .i64 (line : Int), er] 54 (0, 0)) :: (gb, .cells cs1 5 (0, 0)) :: (gr, .cells #[.string s, .slice Az zs.length cz, .int .i64 (ap : Int), .bool false] 67 (0, 0)) :: (G ++ L0)) ∧ (∀ gt ot t, dc.Vis D gt ot t → (gt = gb ∧ bf.Row cs1 ot t ∧ ot + t.length ≤ l1.length) ∨ dc.InG G gt ot t) ∧ l1.length + 1 ≤ c1 ∧ cs1.size = c1 ∧ c1 ≤ 1000000000 ∧ (∀ (i : Nat) (v : Int), l1[i]? = some v → cs1[i]? = some (Value.int .u8 v)) ∧ r1 + v = l1.length ∧ l1.drop r1 = X.take v ∧ r1 + X.length ≤ 1000000) ?_ ?_
  · clear S a H; rintro a w ⟨l1, r1, c1, gb, cs1, G, S, H, hinv⟩
    obtain ⟨hKp, hroom, hcs1, hc1, hrow1, hr1, hdr1, hsz1⟩ := hinv
    clear hbuf hlc hcb hr0 hdr hsz
    refine wp_seq ?_
    refine d_start (id := 12) [21] 27 #[false, false, false, false, false, false, false, false, false, false, false, false, false, false, false, false, false, false, false, false, false, false, false, false, false, false, false] H rfl rfl rfl (fun w H => ?_)
    refine d_pure (i := 0) #[true, false, false, false, false, false, false, false, false, false, false, false, false, false, false, false, false, false, false, false, false, false, false, false, false, false, false] S rfl (p_move rfl) (wanted_none rfl) rfl rfl (by kernel_rfl) (fun _ _ _ h => h) ?_; clear S a; intro a S
    refine d_pure (i := 1) #[true, true, false, false, false, false, false, false, false, false, false, false, false, false, false, false, false, false, false, false, false, false, false, false, false, false, false] S rfl (p_nilCheck rfl) (wanted_none rfl) rfl rfl (by kernel_rfl) (fun _ _ _ h => h) ?_; clear S a; intro a S
    refine d_pure (i := 2) #[true, true, true, false, false, false, false, false, false, false, false, false, false, false, false, false, false, false, false, false, false, false, false, false, false, false, false] S rfl (p_fieldAddr rfl (fun w => fa54_0 w _ _)) (wanted_none rfl) rfl rfl (by kernel_rfl) (fun _ _ _ h => h) ?_; clear S a; intro a S
    refine d_read (i := 3) #[true, true, true, true, false, false, false, false, false, false, false, false, false, false, false, false, false, false, false, false, false, false, false, false, false, false, false] S H rfl (r_load rfl List.mem_cons_self rfl (fun w hc => ld1 ag51 hc)) (wanted_none rfl) rfl rfl (by kernel_rfl) (fun _ _ _ h => h) ?_; clear S a; intro a S
    refine d_pure (i := 4) #[true, true, true, true, true, false, false, false, false, false, false, false, false, false, false, false, false, false, false, false, false, false, false, false, false, false, false] S rfl (p_move rfl) (wanted_none rfl) rfl rfl (by kernel_rfl) (fun _ _ _ h => h) ?_; clear S a; intro a S
    refine d_pure (i := 5) #[true, true, true, true, true, true, false, false, false, false, false, false, false, false, false, false, false, false, false, false, false, false, false, false, false, false, false] S rfl (p_nilCheck rfl) (wanted_none rfl) rfl rfl (by kernel_rfl) (fun _ _ _ h => h) ?_; clear S a; intro a S
    refine d_pure (i := 6) #[true, true, true, true, true, true, true, false, false, false, false, false, false, false, false, false, false, false, false, false, false, false, false, false, false, false, false] S rfl (p_fieldAddr rfl (fun w => fa54_1 w _ _)) (wanted_none rfl) rfl rfl (by kernel_rfl) (fun _ _ _ h => h) ?_; clear S a; intro a S
    refine d_read (i := 7) #[true, true, true, true, true, true, true, true, false, false, false, false, false, false, false, false, false, false, false, false, false, false, false, false, false, false, false] S H rfl (r_load rfl List.mem_cons_self rfl (fun w hc => ld1 ag32 hc)) (wanted_none rfl) rfl rfl (by kernel_rfl) (fun _ _ _ h => h) ?_; clear S a; intro a S
    refine d_pure (i := 8) #[true, true, true, true, true, true, true, true, true, false, false, false, false, false, false, false, false, false, false, false, false, false, false, false, false, false, false] S rfl (p_move rfl) (wanted_none rfl) rfl rfl (by kernel_rfl) (fun _ _ _ h => h) ?_; clear S a; intro a S
    refine d_pure (i := 9) #[true, true, true, true, true, true, true, true, true, true, false, false, false, false, false, false, false, false, false, false, false, false, false, false, false, false, false] S rfl (p_nilCheck rfl) (wanted_none rfl) rfl rfl (by kernel_rfl) (fun _ _ _ h => h) ?_; clear S a; intro a S
    refine d_pure (i := 10) #[true, true, true, true, true, true, true, true, true, true, true, false, false, false, false, false, false, false, false, false, false, false, false, false, false, false, false] S rfl (p_fieldAddr rfl (fun w => fa54_1 w _ _)) (wanted_none rfl) rfl rfl (by kernel_rfl) (fun _ _ _ h => h) ?_; clear S a; intro a S
    refine d_read (i := 11) #[true, true, true, true, true, true, true, true, true, true, true, true, false, false, false, false, false, false, false, false, false, false, false, false, false, false, false] S H rfl (r_load rfl List.mem_cons_self rfl (fun w hc => ld1 ag32 hc)) (wanted_none rfl) rfl rfl (by kernel_rfl) (fun _ _ _ h => h) ?_; clear S a; intro a S
    refine d_pure (i := 12) #[true, true, true, true, true, true, true, true, true, true, true, true, true, false, false, false, false, false, false, false, false, false, false, false, false, false, false] S rfl (p_len Tryd.underlying32 rfl) (wanted_none rfl) rfl rfl (by kernel_rfl) (fun _ _ _ h => h) ?_; clear S a; intro a S
    refine d_pure (i := 13) #[true, true, true, true, true, true, true, true, true, true, true, true, true, true, false, false, false, false, false, false, false, false, false, false, false, false, false] S rfl (p_move rfl) (wanted_none rfl) rfl rfl (by kernel_rfl) (fun _ _ _ h => h) ?_; clear S a; intro a S
    refine d_pure (i := 14) #[true, true, true, true, true, true, true, true, true, true, true, true, true, true, true, false, false, false, false, false, false, false, false, false, false, false, false] S rfl (p_nilCheck rfl) (wanted_none rfl) rfl rfl (by kernel_rfl) (fun _ _ _ h => h) ?_; clear S a; intro a S
    refine d_pure (i := 15) #[true, true, true, true, true, true, true, true, true, true, true, true, true, true, true, true, false, false, false, false, false, false, false, false, false, false, false] S rfl (p_fieldAddr rfl (fun w => fa54_1 w _ _)) (wanted_none rfl) rfl rfl (by kernel_rfl) (fun _ _ _ h => h) ?_; clear S a; intro a S
    refine d_read (i := 16) #[true, true, true, true, true, true, true, true, true, true, true, true, true, true, true, true, true, false, false, false, false, false, false, false, false, false, false] S H rfl (r_load rfl List.mem_cons_self rfl (fun w hc => ld1 ag32 hc)) (wanted_none rfl) rfl rfl (by kernel_rfl) (fun _ _ _ h => h) ?_; clear S a; intro a S
    refine d_pure (i := 17) #[true, true, true, true, true, true, true, true, true, true, true, true, true, true, true, true, true, true, false, false, false, false, false, false, false, false, false] S rfl (p_cap Tryd.underlying32 rfl) (wanted_none rfl) rfl rfl (by kernel_rfl) (fun _ _ _ h => h) ?_; clear S a; intro a S
    refine d_pure (i := 18) #[true, true, true, true, true, true, true, true, true, true, true, true, true, true, true, true, true, true, true, false, false, false, false, false, false, false, false] S rfl (p_slice rfl (o_some rfl) (o_some rfl) (fun _ _ => o_none) (fun w => sl_rest Tryd.underlying32 sz5 rfl rfl (by omega))) (wanted_none rfl) rfl rfl (by kernel_rfl) (fun _ _ _ h => h) ?_; clear S a; intro a S
    refine d_pure (i := 19) #[true, true, true, true, true, true, true, true, true, true, true, true, true, true, true, true, true, true, true, true, false, false, false, false, false, false, false] S rfl (p_nilCheckI rfl) (wanted_none rfl) rfl rfl (by kernel_rfl) (fun _ _ _ h => h) ?_; clear S a; intro a S
    refine d_pure (i := 20) #[true, true, true, true, true, true, true, true, true, true, true, true, true, true, true, true, true, true, true, true, true, false, false, false, false, false, false] S rfl (p_move rfl) (wanted_none rfl) rfl rfl (by kernel_rfl) (fun _ _ _ h => h) ?_; clear S a; intro a S
    have H2 : HH wb.heap.size wb w ((gr, _) :: (gb, _) :: ((g, _) :: (G ++ L0))) := HH.perm H.pull2 (List.Perm.cons _ (List.Perm.swap _ _ _))
    have hcon := read_ wb w _ gr gb s Az zs cz ap cs1 l1.length (c1 - l1.length) ae hE hlt H2 hC (by omega) (by omega) (by omega) (by have := congrArg List.length hX; rw [List.length_drop, ints_len] at this; omega)
    refine d_invoke_last (i := 21) #[true, true, true, true, true, true, true, true, true, true, true, true, true, true, true, true, true, true, true, true, true, true, false, false, false, false, false] S rfl rfl rfl rfl (meRead _ _) Tryd.func100 rfl rfl hcon (wanted_none rfl) rfl rfl (by kernel_rfl) rfl ?_; clear hcon H2
    rintro e w (⟨hs0, rfl, hH⟩ | ⟨hs1, rfl, hH⟩)
    · skip
      refine ⟨_, rfl, ?_⟩; clear S a; intro a S; clear H; have H := HH.perm hH.pull2 (List.Perm.cons _ (List.Perm.swap _ _ _)); clear hH
      refine d_pure (i := 22) #[true, true, true, true, true, true, true, true, true, true, true, true, true, true, true, true, true, true, true, true, true, true, true, false, false, false, false] S rfl (p_move rfl) (wanted_none rfl) rfl rfl (by kernel_rfl) (fun _ _ _ h => h) ?_; clear S a; intro a S
      refine d_pure (i := 23) #[true, true, true, true, true, true, true, true, true, true, true, true, true, true, true, true, true, true, true, true, true, true, true, true, false, false, false] S rfl (p_extract rfl rfl) (wanted_none rfl) rfl rfl (by kernel_rfl) (fun _ _ _ h => h) ?_; clear S a; intro a S
      refine d_pure (i := 24) #[true, true, true, true, true, true, true, true, true, true, true, true, true, true, true, true, true, true, true, true, true, true, true, true, true, false, false] S rfl (p_extract rfl rfl) (wanted_none rfl) rfl rfl (by kernel_rfl) (fun _ _ _ h => h) ?_; clear S a; intro a S
      refine d_pure (i := 25) #[true, true, true, true, true, true, true, true, true, true, true, true, true, true, true, true, true, true, true, true, true, true, true, true, true, true, false] S rfl (p_assign rfl) (wanted_none rfl) rfl rfl (by kernel_rfl) (fun _ _ _ h => h) ?_; clear S a; intro a S
      refine d_pure (i := 26) #[true, true, true, true, true, true, true, true, true, true, true, true, true, true, true, true, true, true, true, true, true, true, true, true, true, true, true] S rfl (p_assign rfl) (wanted_none rfl) rfl rfl (by kernel_rfl) (fun _ _ _ h => h) ?_; clear S a; intro a S
      refine d_done (by kernel_rfl) ?_
      refine e_then ?_
      refine wp_seq ?_
      refine d_start (id := 13) [15] 16 #[false, false, false, false, false, false, false, false, false, false, false, false, false, false, false, false] H rfl rfl rfl (fun w H => ?_)
      refine d_pure (i := 0) #[true, false, false, false, false, false, false, false, false, false, false, false, false, false, false, false] S rfl (p_move rfl) (wanted_none rfl) rfl rfl (by kernel_rfl) (fun _ _ _ h => h) ?_; clear S a; intro a S
      refine d_pure (i := 1) #[true, true, false, false, false, false, false, false, false, false, false, false, false, false, false, false] S rfl (p_move rfl) (wanted_none rfl) rfl rfl (by kernel_rfl) (fun _ _ _ h => h) ?_; clear S a; intro a S
      refine d_pure (i := 2) #[true, true, true, false, false, false, false, false, false, false, false, false, false, false, false, false] S rfl (p_nilCheck rfl) (wanted_none rfl) rfl rfl (by kernel_rfl) (fun _ _ _ h => h) ?_; clear S a; intro a S
      refine d_pure (i := 3) #[true, true, true, true, false, false, false, false, false, false, false, false, false, false, false, false] S rfl (p_fieldAddr rfl (fun w => fa54_1 w _ _)) (wanted_none rfl) rfl rfl (by kernel_rfl) (fun _ _ _ h => h) ?_; clear S a; intro a S
      refine d_read (i := 4) #[true, true, true, true, true, false, false, false, false, false, false, false, false, false, false, false] S H rfl (r_load rfl List.mem_cons_self rfl (fun w hc => ld1 ag32 hc)) (wanted_none rfl) rfl rfl (by kernel_rfl) (fun _ _ _ h => h) ?_; clear S a; intro a S
      refine d_pure (i := 5) #[true, true, true, true, true, true, false, false, false, false, false, false, false, false, false, false] S rfl (p_move rfl) (wanted_none rfl) rfl rfl (by kernel_rfl) (fun _ _ _ h => h) ?_; clear S a; intro a S
      refine d_pure (i := 6) #[true, true, true, true, true, true, true, false, false, false, false, false, false, false, false, false] S rfl (p_nilCheck rfl) (wanted_none rfl) rfl rfl (by kernel_rfl) (fun _ _ _ h => h) ?_; clear S a; intro a S
      refine d_pure (i := 7) #[true, true, true, true, true, true, true, true, false, false, false, false, false, false, false, false] S rfl (p_fieldAddr rfl (fun w => fa54_1 w _ _)) (wanted_none rfl) rfl rfl (by kernel_rfl) (fun _ _ _ h => h) ?_; clear S a; intro a S
      refine d_read (i := 8) #[true, true, true, true, true, true, true, true, true, false, false, false, false, false, false, false] S H rfl (r_load rfl List.mem_cons_self rfl (fun w hc => ld1 ag32 hc)) (wanted_none rfl) rfl rfl (by kernel_rfl) (fun _ _ _ h => h) ?_; clear S a; intro a S
      refine d_pure (i := 9) #[true, true, true, true, true, true, true, true, true, true, false, false, false, false, false, false] S rfl (p_len Tryd.underlying32 rfl) (wanted_none rfl) rfl rfl (by kernel_rfl) (fun _ _ _ h => h) ?_; clear S a; intro a S
      refine d_pure (i := 10) #[true, true, true, true, true, true, true, true, true, true, true, false, false, false, false, false] S rfl (p_move rfl) (wanted_none rfl) rfl rfl (by kernel_rfl) (fun _ _ _ h => h) ?_; clear S a; intro a S
      refine d_pure (i := 11) #[true, true, true, true, true, true, true, true, true, true, true, true, false, false, false, false] S rfl (p_add rfl rfl (nat_add (x := l1.length) (y := 0) (by omega))) (wanted_none rfl) rfl rfl (by kernel_rfl) (fun _ _ _ h => h) ?_; clear S a; intro a S
      refine d_pure (i := 12) #[true, true, true, true, true, true, true, true, true, true, true, true, true, false, false, false] S rfl (p_slice rfl (fun _ _ => o_none) (o_some rfl) (fun _ _ => o_none) (fun w => sl_hi (m := (l1.length + 0)) Tryd.underlying32 sz5 rfl (by omega))) (wanted_none rfl) rfl rfl (by kernel_rfl) (fun _ _ _ h => h) ?_; clear S a; intro a S
      refine d_pure (i := 13) #[true, true, true, true, true, true, true, true, true, true, true, true, true, true, false, false] S rfl (p_nilCheck rfl) (wanted_none rfl) rfl rfl (by kernel_rfl) (fun _ _ _ h => h) ?_; clear S a; intro a S
      refine d_pure (i := 14) #[true, true, true, true, true, true, true, true, true, true, true, true, true, true, true, false] S rfl (p_fieldAddr rfl (fun w => fa54_1 w _ _)) (wanted_none rfl) rfl rfl (by kernel_rfl) (fun _ _ _ h => h) ?_; clear S a; intro a S
      refine d_store (i := 15) #[true, true, true, true, true, true, true, true, true, true, true, true, true, true, true, true] S H rfl rfl rfl rfl .here (by first | decide | simp [Value.cells]) (fun w u hc hz => st1 sz32 rfl hc hz) (wanted_none rfl) rfl (by kernel_rfl) rfl ?_; clear S a H; intro w a H S
      refine d_done (by kernel_rfl) ?_
      refine e_then ?_
      refine wp_seq ?_
      refine wp_seq ?_
      refine c_region ?_
      refine l_pure S (p_move rfl) rfl rfl rfl ?_; clear S a; intro a S
      refine l_pure S (p_ifnil mi42 rfl rfl) rfl rfl rfl ?_; clear S a; intro a S
      refine l_nil ?_
      refine e_then ?_
      refine c_cond (b := false) S rfl (fun h => by cases h) (fun _ => ?_)
      refine wp_skip ?_
      refine e_then ?_
      refine wp_seq ?_
      refine c_region ?_
      refine l_pure S (p_move rfl) rfl rfl rfl ?_; clear S a; intro a S
      refine l_pure S (p_nilCheck rfl) rfl rfl rfl ?_; clear S a; intro a S
      refine l_pure S (p_fieldAddr rfl (fun w => fa54_4 w _ _)) rfl rfl rfl ?_; clear S a; intro a S
      refine l_store S H rfl rfl rfl .here (by first | decide | simp [Value.cells]) (fun w u hc hz => st1 sz4 rfl hc hz) rfl rfl ?_; clear S a H; intro w a H S
      refine l_nil ?_
      refine e_then ?_
      refine wp_seq ?_
      refine c_region ?_
      refine l_pure S (p_move rfl) rfl rfl rfl ?_; clear S a; intro a S
      refine l_read S H (r_loadG rfl hE hlt ag42) rfl rfl rfl ?_; clear S a; intro a S
      refine l_pure S (p_ifsame mi42 inf89 Tryd.underlying89 szE rfl rfl) rfl rfl rfl ?_; clear S a; intro a S
      refine l_nil ?_
      refine e_then ?_
      refine c_cond (b := false) S rfl (fun h => by cases h) (fun _ => ?_)
      refine wp_skip ?_
      replace H : HH wb.heap.size wb _ (((g, _) :: ([(gb, .cells cs1 5 (0, 0))] ++ [])) ++ (G ++ L0)) := HH.sub H (((List.sublist_cons_self _ _).cons_cons _).cons_cons _)
      exact r_end0 S rfl ⟨rfl, v, true, 0, _, ⟨_, some ⟨gb, 0, none⟩, l1, c1, r1, [(gb, .cells cs1 5 (0, 0))], [], rfl, ⟨by omega, ⟨fun h => (by cases h), .inr ⟨gb, cs1, (0, 0), rfl, hcs1, rfl, fun _ => rfl, hrow1⟩⟩⟩, .inl ⟨rfl, by rw [hX]; exact List.length_eq_zero_iff.1 (by rw [ints_len]; omega), rfl⟩, hr1, hvX, hdr1, hsz1, hpX⟩, G, H, fun gt ot t h => by rcases hKp gt ot t h with ⟨q1, q2, q3⟩ | h; subst q1; exact .inl (dc.vis_mk rfl (q3) (q2)); exact .inr h, Nat.le_refl _, .inl rfl⟩
    · skip
      refine ⟨_, rfl, ?_⟩; clear S a; intro a S; clear H; have H := HH.perm hH.pull2 (List.Perm.cons _ (List.Perm.swap _ _ _)); clear hH
      have hkl := dc.took_le zs ap s.size (c1 - l1.length)
      have hkr : dc.took zs ap s.size (c1 - l1.length) ≤ c1 - l1.length := dc.took_room _ _ _ _
      refine d_pure (i := 22) #[true, true, true, true, true, true, true, true, true, true, true, true, true, true, true, true, true, true, true, true, true, true, true, false, false, false, false] S rfl (p_move rfl) (wanted_none rfl) rfl rfl (by kernel_rfl) (fun _ _ _ h => h) ?_; clear S a; intro a S
      refine d_pure (i := 23) #[true, true, true, true, true, true, true, true, true, true, true, true, true, true, true, true, true, true, true, true, true, true, true, true, false, false, false] S rfl (p_extract rfl rfl) (wanted_none rfl) rfl rfl (by kernel_rfl) (fun _ _ _ h => h) ?_; clear S a; intro a S
      refine d_pure (i := 24) #[true, true, true, true, true, true, true, true, true, true, true, true, true, true, true, true, true, true, true, true, true, true, true, true, true, false, false] S rfl (p_extract rfl rfl) (wanted_none rfl) rfl rfl (by kernel_rfl) (fun _ _ _ h => h) ?_; clear S a; intro a S
      refine d_pure (i := 25) #[true, true, true, true, true, true, true, true, true, true, true, true, true, true, true, true, true, true, true, true, true, true, true, true, true, true, false] S rfl (p_assign rfl) (wanted_none rfl) rfl rfl (by kernel_rfl) (fun _ _ _ h => h) ?_; clear S a; intro a S
      refine d_pure (i := 26) #[true, true, true, true, true, true, true, true, true, true, true, true, true, true, true, true, true, true, true, true, true, true, true, true, true, true, true] S rfl (p_assign rfl) (wanted_none rfl) rfl rfl (by kernel_rfl) (fun _ _ _ h => h) ?_; clear S a; intro a S
      refine d_done (by kernel_rfl) ?_
      refine e_then ?_
      refine wp_seq ?_
      refine d_start (id := 13) [15] 16 #[false, false, false, false, false, false, false, false, false, false, false, false, false, false, false, false] H rfl rfl rfl (fun w H => ?_)
      refine d_pure (i := 0) #[true, false, false, false, false, false, false, false, false, false, false, false, false, false, false, false] S rfl (p_move rfl) (wanted_none rfl) rfl rfl (by kernel_rfl) (fun _ _ _ h => h) ?_; clear S a; intro a S
      refine d_pure (i := 1) #[true, true, false, false, false, false, false, false, false, false, false, false, false, false, false, false] S rfl (p_move rfl) (wanted_none rfl) rfl rfl (by kernel_rfl) (fun _ _ _ h => h) ?_; clear S a; intro a S
      refine d_pure (i := 2) #[true, true, true, false, false, false, false, false, false, false, false, false, false, false, false, false] S rfl (p_nilCheck rfl) (wanted_none rfl) rfl rfl (by kernel_rfl) (fun _ _ _ h => h) ?_; clear S a; intro a S
      refine d_pure (i := 3) #[true, true, true, true, false, false, false, false, false, false, false, false, false, false, false, false] S rfl (p_fieldAddr rfl (fun w => fa54_1 w _ _)) (wanted_none rfl) rfl rfl (by kernel_rfl) (fun _ _ _ h => h) ?_; clear S a; intro a S
      refine d_read (i := 4) #[true, true, true, true, true, false, false, false, false, false, false, false, false, false, false, false] S H rfl (r_load rfl List.mem_cons_self rfl (fun w hc => ld1 ag32 hc)) (wanted_none rfl) rfl rfl (by kernel_rfl) (fun _ _ _ h => h) ?_; clear S a; intro a S
      refine d_pure (i := 5) #[true, true, true, true, true, true, false, false, false, false, false, false, false, false, false, false] S rfl (p_move rfl) (wanted_none rfl) rfl rfl (by kernel_rfl) (fun _ _ _ h => h) ?_; clear S a; intro a S
      refine d_pure (i := 6) #[true, true, true, true, true, true, true, false, false, false, false, false, false, false, false, false] S rfl (p_nilCheck rfl) (wanted_none rfl) rfl rfl (by kernel_rfl) (fun _ _ _ h => h) ?_; clear S a; intro a S
      refine d_pure (i := 7) #[true, true, true, true, true, true, true, true, false, false, false, false, false, false, false, false] S rfl (p_fieldAddr rfl (fun w => fa54_1 w _ _)) (wanted_none rfl) rfl rfl (by kernel_rfl) (fun _ _ _ h => h) ?_; clear S a; intro a S
      refine d_read (i := 8) #[true, true, true, true, true, true, true, true, true, false, false, false, false, false, false, false] S H rfl (r_load rfl List.mem_cons_self rfl (fun w hc => ld1 ag32 hc)) (wanted_none rfl) rfl rfl (by kernel_rfl) (fun _ _ _ h => h) ?_; clear S a; intro a S
      refine d_pure (i := 9) #[true, true, true, true, true, true, true, true, true, true, false, false, false, false, false, false] S rfl (p_len Tryd.underlying32 rfl) (wanted_none rfl) rfl rfl (by kernel_rfl) (fun _ _ _ h => h) ?_; clear S a; intro a S
      refine d_pure (i := 10) #[true, true, true, true, true, true, true, true, true, true, true, false, false, false, false, false] S rfl (p_move rfl) (wanted_none rfl) rfl rfl (by kernel_rfl) (fun _ _ _ h => h) ?_; clear S a; intro a S
      refine d_pure (i := 11) #[true, true, true, true, true, true, true, true, true, true, true, true, false, false, false, false] S rfl (p_add rfl rfl (nat_add (x := l1.length) (y := (dc.took zs ap s.size (c1 - l1.length))) (by omega))) (wanted_none rfl) rfl rfl (by kernel_rfl) (fun _ _ _ h => h) ?_; clear S a; intro a S
      refine d_pure (i := 12) #[true, true, true, true, true, true, true, true, true, true, true, true, true, false, false, false] S rfl (p_slice rfl (fun _ _ => o_none) (o_some rfl) (fun _ _ => o_none) (fun w => sl_hi (m := (l1.length + (dc.took zs ap s.size (c1 - l1.length)))) Tryd.underlying32 sz5 rfl (by omega))) (wanted_none rfl) rfl rfl (by kernel_rfl) (fun _ _ _ h => h) ?_; clear S a; intro a S
      refine d_pure (i := 13) #[true, true, true, true, true, true, true, true, true, true, true, true, true, true, false, false] S rfl (p_nilCheck rfl) (wanted_none rfl) rfl rfl (by kernel_rfl) (fun _ _ _ h => h) ?_; clear S a; intro a S
      refine d_pure (i := 14) #[true, true, true, true, true, true, true, true, true, true, true, true, true, true, true, false] S rfl (p_fieldAddr rfl (fun w => fa54_1 w _ _)) (wanted_none rfl) rfl rfl (by kernel_rfl) (fun _ _ _ h => h) ?_; clear S a; intro a S
      refine d_store (i := 15) #[true, true, true, true, true, true, true, true, true, true, true, true, true, true, true, true] S H rfl rfl rfl rfl .here (by first | decide | simp [Value.cells]) (fun w u hc hz => st1 sz32 rfl hc hz) (wanted_none rfl) rfl (by kernel_rfl) rfl ?_; clear S a H; intro w a H S
      refine d_done (by kernel_rfl) ?_
      refine e_then ?_
      refine wp_seq ?_
      refine wp_seq ?_
      refine c_region ?_
      refine l_pure S (p_move rfl) rfl rfl rfl ?_; clear S a; intro a S
      refine l_pure S (p_nilnil mi42 rfl) rfl rfl rfl ?_; clear S a; intro a S
      refine l_nil ?_
      refine e_then ?_
      refine c_cond (b := true) S rfl (fun _ => ?_) (fun h => by cases h)
      refine wp_ret ?_
      refine e_then_ret ?_
      have e3 : l1.length + dc.took zs ap s.size (c1 - l1.length) = (l1 ++ (ints s).take (dc.took zs ap s.size (c1 - l1.length))).length := by rw [List.length_append, List.length_take, ints_len]; omega
      obtain ⟨q1, q2, q3, q4⟩ := dc.grow_ hdr1 hr1 hX hkl hvX
      rw [ints_len] at hpg
      obtain ⟨M', hM1, hM2, hM3⟩ := hpg.step hs1 (show 0 < c1 - l1.length by omega)
      have hrow2 := dc.spl_row (t := (ints s).take (dc.took zs ap s.size (c1 - l1.length))) hrow1 (by rw [hcs1, List.length_take, ints_len]; omega)
      rw [List.map_take] at hrow2
      rw [e3] at H
      exact r_ret0 S rfl ⟨rfl, v + dc.took zs ap s.size (c1 - l1.length), false, M', _, ⟨_, some ⟨gb, 0, none⟩, _, c1, r1, [(gb, .cells _ 5 (0, 0))], [(gr, _)], rfl, ⟨by rw [← e3]; omega, ⟨fun _ => hc1, .inr ⟨gb, _, (0, 0), rfl, by rw [spl_size]; exact hcs1, rfl, fun _ => rfl, hrow2⟩⟩⟩, .inr ⟨rfl, gr, _, Az, zs, cz, _, rfl, q4, rfl, hC, hzc, by rw [ints_len, dc.ext_size hkl]; exact hM2, by omega⟩, q2, q3, q1, hsz1, hpX⟩, G, H, fun gt ot t h => by rcases hKp gt ot t h with ⟨q1, q2, q3⟩ | h; subst q1; exact .inl (dc.vis_mk rfl (by rw [← e3]; omega) (dc.row_keep q2 q3)); exact .inr h, by omega, .inr hM1⟩
  · skip
    refine wp_seq ?_
    refine c_region ?_
    refine l_pure S (p_move rfl) rfl rfl rfl ?_; clear S a; intro a S
    refine l_pure S (p_lss rfl rfl) rfl rfl rfl ?_; clear S a; intro a S
    refine l_nil ?_
    refine e_then ?_
    refine c_cond S rfl (fun c10 => ?_) (fun c10 => ?_)
    · skip
      have c10 := of_decide_eq_true c10
      refine wp_seq ?_
      refine d_start (id := 3) [] 11 #[false, false, false, false, false, false, false, false, false, false, false] H rfl rfl rfl (fun w H => ?_)
      refine d_pure (i := 0) #[true, false, false, false, false, false, false, false, false, false, false] S rfl (p_move rfl) (wanted_none rfl) rfl rfl (by kernel_rfl) (fun _ _ _ h => h) ?_; clear S a; intro a S
      refine d_pure (i := 1) #[true, true, false, false, false, false, false, false, false, false, false] S rfl (p_nilCheck rfl) (wanted_none rfl) rfl rfl (by kernel_rfl) (fun _ _ _ h => h) ?_; clear S a; intro a S
      refine d_pure (i := 2) #[true, true, true, false, false, false, false, false, false, false, false] S rfl (p_fieldAddr rfl (fun w => fa54_1 w _ _)) (wanted_none rfl) rfl rfl (by kernel_rfl) (fun _ _ _ h => h) ?_; clear S a; intro a S
      refine d_read (i := 3) #[true, true, true, true, false, false, false, false, false, false, false] S H rfl (r_load rfl List.mem_cons_self rfl (fun w hc => ld1 ag32 hc)) (wanted_none rfl) rfl rfl (by kernel_rfl) (fun _ _ _ h => h) ?_; clear S a; intro a S
      refine d_pure (i := 4) #[true, true, true, true, true, false, false, false, false, false, false] S rfl (p_len Tryd.underlying32 rfl) (wanted_none rfl) rfl rfl (by kernel_rfl) (fun _ _ _ h => h) ?_; clear S a; intro a S
      refine d_pure (i := 5) #[true, true, true, true, true, true, false, false, false, false, false] S rfl (p_move rfl) (wanted_none rfl) rfl rfl (by kernel_rfl) (fun _ _ _ h => h) ?_; clear S a; intro a S
      refine d_pure (i := 6) #[true, true, true, true, true, true, true, false, false, false, false] S rfl (p_nilCheck rfl) (wanted_none rfl) rfl rfl (by kernel_rfl) (fun _ _ _ h => h) ?_; clear S a; intro a S
      refine d_pure (i := 7) #[true, true, true, true, true, true, true, true, false, false, false] S rfl (p_fieldAddr rfl (fun w => fa54_2 w _ _)) (wanted_none rfl) rfl rfl (by kernel_rfl) (fun _ _ _ h => h) ?_; clear S a; intro a S
      refine d_read (i := 8) #[true, true, true, true, true, true, true, true, true, false, false] S H rfl (r_load rfl List.mem_cons_self rfl (fun w hc => ld1 ag3 hc)) (wanted_none rfl) rfl rfl (by kernel_rfl) (fun _ _ _ h => h) ?_; clear S a; intro a S
      refine d_pure (i := 9) #[true, true, true, true, true, true, true, true, true, true, false] S rfl (p_sub rfl rfl (nat_sub (x := l.length) (y := r0) (by omega) (by omega))) (wanted_none rfl) rfl rfl (by kernel_rfl) (fun _ _ _ h => h) ?_; clear S a; intro a S
      refine d_pure (i := 10) #[true, true, true, true, true, true, true, true, true, true, true] S rfl (p_assign rfl) (wanted_none rfl) rfl rfl (by kernel_rfl) (fun _ _ _ h => h) ?_; clear S a; intro a S
      refine d_done (by kernel_rfl) ?_
      refine e_then ?_
      refine wp_seq ?_
      refine c_region ?_
      refine l_pure S (p_move rfl) rfl rfl rfl ?_; clear S a; intro a S
      refine l_pure S (p_nilCheck rfl) rfl rfl rfl ?_; clear S a; intro a S
      refine l_pure S (p_fieldAddr rfl (fun w => fa54_1 w _ _)) rfl rfl rfl ?_; clear S a; intro a S
      refine l_read S H (r_load rfl List.mem_cons_self rfl (fun w hc => ld1 ag32 hc)) rfl rfl rfl ?_; clear S a; intro a S
      refine l_pure S (p_cap Tryd.underlying32 rfl) rfl rfl rfl ?_; clear S a; intro a S
      refine l_pure S (p_mul rfl rfl (nat_mul (x := c) (y := 2) (by omega))) rfl rfl rfl ?_; clear S a; intro a S
      refine l_pure S (p_assign rfl) rfl rfl rfl ?_; clear S a; intro a S
      refine l_nil ?_
      refine e_then ?_
      refine c_cut (fun a w => ∃ n1 : Nat, SL a 130 [] [(0, .pointer (some ⟨g, 0, none⟩)), (3, .int .i64 ((l.length - r0 : Nat) : Int)), (4, .int .i64 (n1 : Int))] ∧ HH (wb.heap.size) wb w ((g, .cells #[.iface 47 (.pointer (some ⟨gr, 0, none⟩)), .slice A l.length c, .int .i64 (r0 : Int), .int .i64 ((r0 + p : Nat) : Int), .bool false, .int .u8 sec, .bool sk, eb, .int .i64 (line : Int), er] 54 (0, 0)) :: (mb ++ ((gr, .cells #[.string s, .slice Az zs.length cz, .int .i64 (ap : Int), .bool false] 67 (0, 0)) :: L0))) ∧ l.length - r0 + 8192 ≤ n1 ∧ n1 ≤ 100000000) ?_ ?_
      · clear S a H; rintro a w ⟨n1, S, H, hinv⟩
        obtain ⟨hn1, hn2⟩ := hinv
        refine wp_seq ?_
        refine c_region ?_
        refine l_pure S (p_move rfl) rfl rfl rfl ?_; clear S a; intro a S
        refine l_pure S (p_move rfl) rfl rfl rfl ?_; clear S a; intro a S
        refine l_make S H rfl rfl rfl Tryd.underlying32 in5 (by omega) (by omega) (by omega) rfl rfl rfl ?_; clear S a H; intro gn11 csgn11 w a hcsgn11 H S
        refine l_pure S (p_assign rfl) rfl rfl rfl ?_; clear S a; intro a S
        refine l_nil ?_
        refine e_then ?_
        refine wp_seq ?_
        refine d_start (id := 8) [10] 11 #[false, false, false, false, false, false, false, false, false, false, false] H rfl rfl rfl (fun w H => ?_)
        refine d_pure (i := 0) #[true, false, false, false, false, false, false, false, false, false, false] S rfl (p_move rfl) (wanted_none rfl) rfl rfl (by kernel_rfl) (fun _ _ _ h => h) ?_; clear S a; intro a S
        refine d_pure (i := 1) #[true, true, false, false, false, false, false, false, false, false, false] S rfl (p_move rfl) (wanted_none rfl) rfl rfl (by kernel_rfl) (fun _ _ _ h => h) ?_; clear S a; intro a S
        refine d_pure (i := 2) #[true, true, true, false, false, false, false, false, false, false, false] S rfl (p_nilCheck rfl) (wanted_none rfl) rfl rfl (by kernel_rfl) (fun _ _ _ h => h) ?_; clear S a; intro a S
        refine d_pure (i := 3) #[true, true, true, true, false, false, false, false, false, false, false] S rfl (p_fieldAddr rfl (fun w => fa54_1 w _ _)) (wanted_none rfl) rfl rfl (by kernel_rfl) (fun _ _ _ h => h) ?_; clear S a; intro a S
        refine d_read (i := 4) #[true, true, true, true, true, false, false, false, false, false, false] S H rfl (r_load rfl (List.mem_cons_of_mem _ List.mem_cons_self) rfl (fun w hc => ld1 ag32 hc)) (wanted_none rfl) rfl rfl (by kernel_rfl) (fun _ _ _ h => h) ?_; clear S a; intro a S
        refine d_pure (i := 5) #[true, true, true, true, true, true, false, false, false, false, false] S rfl (p_move rfl) (wanted_none rfl) rfl rfl (by kernel_rfl) (fun _ _ _ h => h) ?_; clear S a; intro a S
        refine d_pure (i := 6) #[true, true, true, true, true, true, true, false, false, false, false] S rfl (p_nilCheck rfl) (wanted_none rfl) rfl rfl (by kernel_rfl) (fun _ _ _ h => h) ?_; clear S a; intro a S
        refine d_pure (i := 7) #[true, true, true, true, true, true, true, true, false, false, false] S rfl (p_fieldAddr rfl (fun w => fa54_2 w _ _)) (wanted_none rfl) rfl rfl (by kernel_rfl) (fun _ _ _ h => h) ?_; clear S a; intro a S
        refine d_read (i := 8) #[true, true, true, true, true, true, true, true, true, false, false] S H rfl (r_load rfl (List.mem_cons_of_mem _ List.mem_cons_self) rfl (fun w hc => ld1 ag3 hc)) (wanted_none rfl) rfl rfl (by kernel_rfl) (fun _ _ _ h => h) ?_; clear S a; intro a S
        refine d_pure (i := 9) #[true, true, true, true, true, true, true, true, true, true, false] S rfl (p_slice rfl (o_some rfl) (fun _ _ => o_none) (fun _ _ => o_none) (fun w => sl_lo Tryd.underlying32 sz5 rfl (by omega))) (wanted_none rfl) rfl rfl (by kernel_rfl) (fun _ _ _ h => h) ?_; clear S a; intro a S
        refine d_copy (i := 10) #[true, true, true, true, true, true, true, true, true, true, true] S H rfl rfl rfl rfl Tryd.underlying32 sz5 (hbuf.first H.tail.tail (by omega)) (by rw [hcsgn11]; omega) (Nat.min_self _) .here (wanted_none rfl) rfl rfl (by kernel_rfl) rfl ?_; clear S a H; intro w a H S
        refine d_done (by kernel_rfl) ?_
        refine e_then ?_
        refine wp_seq ?_
        refine c_region ?_
        refine l_pure S (p_move rfl) rfl rfl rfl ?_; clear S a; intro a S
        refine l_pure S (p_move rfl) rfl rfl rfl ?_; clear S a; intro a S
        refine l_pure S (p_nilCheck rfl) rfl rfl rfl ?_; clear S a; intro a S
        refine l_pure S (p_fieldAddr rfl (fun w => fa54_1 w _ _)) rfl rfl rfl ?_; clear S a; intro a S
        refine l_store S H rfl rfl rfl (.there .here) (by first | decide | simp [Value.cells]) (fun w u hc hz => st1 sz32 rfl hc hz) rfl rfl ?_; clear S a H; intro w a H S
        refine l_nil ?_
        refine e_then ?_
        refine wp_seq ?_
        refine d_start (id := 10) [11] 12 #[false, false, false, false, false, false, false, false, false, false, false, false] H rfl rfl rfl (fun w H => ?_)
        refine d_pure (i := 0) #[true, false, false, false, false, false, false, false, false, false, false, false] S rfl (p_move rfl) (wanted_none rfl) rfl rfl (by kernel_rfl) (fun _ _ _ h => h) ?_; clear S a; intro a S
        refine d_pure (i := 1) #[true, true, false, false, false, false, false, false, false, false, false, false] S rfl (p_nilCheck rfl) (wanted_none rfl) rfl rfl (by kernel_rfl) (fun _ _ _ h => h) ?_; clear S a; intro a S
        refine d_pure (i := 2) #[true, true, true, false, false, false, false, false, false, false, false, false] S rfl (p_fieldAddr rfl (fun w => fa54_3 w _ _)) (wanted_none rfl) rfl rfl (by kernel_rfl) (fun _ _ _ h => h) ?_; clear S a; intro a S
        refine d_read (i := 3) #[true, true, true, true, false, false, false, false, false, false, false, false] S H rfl (r_load rfl (List.mem_cons_of_mem _ List.mem_cons_self) rfl (fun w hc => ld1 ag3 hc)) (wanted_none rfl) rfl rfl (by kernel_rfl) (fun _ _ _ h => h) ?_; clear S a; intro a S
        refine d_pure (i := 4) #[true, true, true, true, true, false, false, false, false, false, false, false] S rfl (p_move rfl) (wanted_none rfl) rfl rfl (by kernel_rfl) (fun _ _ _ h => h) ?_; clear S a; intro a S
        refine d_pure (i := 5) #[true, true, true, true, true, true, false, false, false, false, false, false] S rfl (p_nilCheck rfl) (wanted_none rfl) rfl rfl (by kernel_rfl) (fun _ _ _ h => h) ?_; clear S a; intro a S
        refine d_pure (i := 6) #[true, true, true, true, true, true, true, false, false, false, false, false] S rfl (p_fieldAddr rfl (fun w => fa54_2 w _ _)) (wanted_none rfl) rfl rfl (by kernel_rfl) (fun _ _ _ h => h) ?_; clear S a; intro a S
        refine d_read (i := 7) #[true, true, true, true, true, true, true, true, false, false, false, false] S H rfl (r_load rfl (List.mem_cons_of_mem _ List.mem_cons_self) rfl (fun w hc => ld1 ag3 hc)) (wanted_none rfl) rfl rfl (by kernel_rfl) (fun _ _ _ h => h) ?_; clear S a; intro a S
        refine d_pure (i := 8) #[true, true, true, true, true, true, true, true, true, false, false, false] S rfl (p_sub rfl rfl (nat_sub (x := (r0 + p)) (y := r0) (by omega) (by omega))) (wanted_none rfl) rfl rfl (by kernel_rfl) (fun _ _ _ h => h) ?_; clear S a; intro a S
        refine d_pure (i := 9) #[true, true, true, true, true, true, true, true, true, true, false, false] S rfl (p_nilCheck rfl) (wanted_none rfl) rfl rfl (by kernel_rfl) (fun _ _ _ h => h) ?_; clear S a; intro a S
        refine d_pure (i := 10) #[true, true, true, true, true, true, true, true, true, true, true, false] S rfl (p_fieldAddr rfl (fun w => fa54_3 w _ _)) (wanted_none rfl) rfl rfl (by kernel_rfl) (fun _ _ _ h => h) ?_; clear S a; intro a S
        refine d_store (i := 11) #[true, true, true, true, true, true, true, true, true, true, true, true] S H rfl rfl rfl rfl (.there .here) (by first | decide | simp [Value.cells]) (fun w u hc hz => st1 sz3 rfl hc hz) (wanted_none rfl) rfl (by kernel_rfl) rfl ?_; clear S a H; intro w a H S
        refine d_done (by kernel_rfl) ?_
        refine e_then ?_
        refine c_region ?_
        refine l_pure S (p_move rfl) rfl rfl rfl ?_; clear S a; intro a S
        refine l_pure S (p_nilCheck rfl) rfl rfl rfl ?_; clear S a; intro a S
        refine l_pure S (p_fieldAddr rfl (fun w => fa54_2 w _ _)) rfl rfl rfl ?_; clear S a; intro a S
        refine l_store S H rfl rfl rfl (.there .here) (by first | decide | simp [Value.cells]) (fun w u hc hz => st1 sz3 rfl hc hz) rfl rfl ?_; clear S a H; intro w a H S
        refine l_nil ?_
        refine e_then ?_
        have e2 : l.length - r0 = (l.drop r0).length := List.length_drop.symm
        have e1 : r0 + p - r0 = 0 + p := by omega
        replace H : HH wb.heap.size wb _ ((g, _) :: (_, _) :: (gr, _) :: (mb ++ L0)) := HH.perm H.pull1 (List.Perm.cons _ (List.Perm.cons _ List.perm_middle))
        rw [e1, ← List.map_take, e2, List.take_of_length_le (Nat.le_refl _)] at H
        rw [e2] at hn1
        exact ⟨(l.drop r0), 0, n1, gn11, _, mb, S.only ⟨rfl, trivial⟩, H, ⟨fun gt ot t h => by obtain ⟨cs, f, q1, q2, q3, q4⟩ := hVis gt ot t h; exact .inr ⟨cs, _, f, by rw [q2]; exact List.mem_cons_self, q4⟩, by omega, by rw [spl_size, hcsgn11], by omega, dc.spl_row0 (by rw [hcsgn11]; omega), by rw [← e2]; omega, by rw [List.drop_zero, hdr], by omega⟩⟩
      · skip
        refine wp_seq ?_
        refine c_region ?_
        refine l_pure S (p_move rfl) rfl rfl rfl ?_; clear S a; intro a S
        refine l_pure S (p_move rfl) rfl rfl rfl ?_; clear S a; intro a S
        refine l_pure S (p_sub rfl rfl (nat_sub (x := (c * 2)) (y := (l.length - r0)) (by omega) (by omega))) rfl rfl rfl ?_; clear S a; intro a S
        refine l_pure S (p_lss rfl rfl) rfl rfl rfl ?_; clear S a; intro a S
        refine l_nil ?_
        refine e_then ?_
        refine c_cond S rfl (fun c13 => ?_) (fun c13 => ?_)
        · skip
          have c13 := of_decide_eq_true c13
          refine c_region ?_
          refine l_pure S (p_move rfl) rfl rfl rfl ?_; clear S a; intro a S
          refine l_pure S (p_add rfl rfl (nat_add (x := (l.length - r0)) (y := 8192) (by omega))) rfl rfl rfl ?_; clear S a; intro a S
          refine l_pure S (p_assign rfl) rfl rfl rfl ?_; clear S a; intro a S
          refine l_nil ?_
          refine e_then ?_
          exact ⟨((l.length - r0) + 8192), S.only ⟨rfl, rfl, rfl, trivial⟩, H, ⟨by omega, by omega⟩⟩
        · skip
          have c13 := of_decide_eq_false c13
          refine wp_skip ?_
          refine e_then ?_
          exact ⟨(c * 2), S.only ⟨rfl, rfl, rfl, trivial⟩, H, ⟨by omega, by omega⟩⟩
    · skip
      have c10 := of_decide_eq_false c10
      refine wp_skip ?_
      refine e_then ?_
      obtain ⟨gb, cs, f, rfl, hcs, rfl, hf, hrow⟩ := hbuf.ex' (by omega)
      obtain rfl := hf rfl
      replace H : HH wb.heap.size wb _ ((g, _) :: (gb, .cells cs 5 (0, 0)) :: (gr, _) :: L0) := H
      exact ⟨l, r0, c, gb, cs, [], S.only ⟨rfl, trivial⟩, H, ⟨fun gt ot t h => by obtain ⟨cs', f', q1, q2, q3, q4⟩ := hVis gt ot t h; injection q1 with q1; injection q1 with q1; subst q1; simp only [List.cons.injEq, Prod.mk.injEq, Obj.cells.injEq, true_and, and_true] at q2; obtain ⟨q5, _⟩ := q2; subst q5; exact .inl ⟨rfl, q4, q3⟩, by omega, hcs, hcb, hrow, hr0, hdr, hsz⟩⟩
end gm
end Go.Proofs.YtbahngfpadjbhaaDoor.dec
