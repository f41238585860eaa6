/- bufio's reader: a line. -/
import Derived.Test.YtnmelglnkefjfaaDoorFi
import Derived.Test.YtnmelglnkefjfaaDoorBu
import Derived.Test.YtnmelglnkefjfaaDoorIx
import Derived.Test.YtnmelglnkefjfaaDoorRp
import Derived.Test.YtnmelglnkefjfaaDoorDg
namespace Go.Proofs.YtnmelglnkefjfaaDoor.rr
open Go.RowKit Go.Proofs.HHW Go.Proofs.YtnmelglnkefjfaaDoorW.PrintWords
set_option linter.unusedVariables false
set_option linter.unusedSimpArgs false
namespace ra
theorem ag3 : aggB Tryd.prog 3 = some false := by kernel_rfl
theorem ag49 : aggB Tryd.prog 49 = some false := by kernel_rfl
theorem ag5 : aggB Tryd.prog 5 = some false := by kernel_rfl
theorem ag55 : aggB Tryd.prog 55 = some false := by kernel_rfl
theorem fa153_0 (w : World) (g o : Nat) : (Instr.fieldAt 153 (.pointer (some ⟨g, o, none⟩)) 0).run Tryd.prog w = .ok (.pointer (some ⟨g, o + 0, none⟩)) w := by kernel_rfl
theorem fa153_2 (w : World) (g o : Nat) : (Instr.fieldAt 153 (.pointer (some ⟨g, o, none⟩)) 2).run Tryd.prog w = .ok (.pointer (some ⟨g, o + 2, none⟩)) w := by kernel_rfl
theorem fa153_3 (w : World) (g o : Nat) : (Instr.fieldAt 153 (.pointer (some ⟨g, o, none⟩)) 3).run Tryd.prog w = .ok (.pointer (some ⟨g, o + 3, none⟩)) w := by kernel_rfl
theorem fa153_4 (w : World) (g o : Nat) : (Instr.fieldAt 153 (.pointer (some ⟨g, o, none⟩)) 4).run Tryd.prog w = .ok (.pointer (some ⟨g, o + 4, none⟩)) w := by kernel_rfl
theorem fa153_5 (w : World) (g o : Nat) : (Instr.fieldAt 153 (.pointer (some ⟨g, o, none⟩)) 5).run Tryd.prog w = .ok (.pointer (some ⟨g, o + 5, none⟩)) w := by kernel_rfl
theorem fa153_6 (w : World) (g o : Nat) : (Instr.fieldAt 153 (.pointer (some ⟨g, o, none⟩)) 6).run Tryd.prog w = .ok (.pointer (some ⟨g, o + 6, none⟩)) w := by kernel_rfl
theorem sz3 : szB Tryd.prog 3 = some 1 := by kernel_rfl
theorem sz5 : szB Tryd.prog 5 = some 1 := by kernel_rfl
theorem mi49 : Tryd.prog.underlying 49 = some (.interface (Tryd.prog.methodsAt 49)) := by kernel_rfl

set_option maxHeartbeats 2000000 in
theorem readSlice_ (wb w0 : World) (L0 : dc.Bk) (g gb gr : Nat) (cs : Array Value) (r : Nat) (vis : List Int) (s : ByteArray) (Az : Option Addr) (zs : List Int) (cz ap : Nat) (lb lr : Int) (ae : Addr) (hE : wb.cell? ⟨0, 0, none⟩ = some (.iface 143 (.pointer (some ae)))) (hlt : 0 < wb.heap.size) (H : HH wb.heap.size wb w0 ((g, .cells #[.slice (some ⟨gb, 0, none⟩) 4096 4096, .iface 42 (.pointer (some ⟨gr, 0, none⟩)), .int .i64 (r : Int), .int .i64 ((r + vis.length : Nat) : Int), .nilIface, .int .i64 lb, .int .i64 lr] 153 (0, 0)) :: (gb, .cells cs 5 (0, 0)) :: (gr, .cells #[.string s, .slice Az zs.length cz, .int .i64 (ap : Int), .bool false] 86 (0, 0)) :: L0)) (hcs : cs.size = 4096) (hrow : bf.Row cs r vis) (hw : r + vis.length ≤ 4096) (hC : (Kd.int .i64).C wb Az zs.length zs) (hzs : zs = []) (ha : ap ≤ 900000000000) (hfit : vis.length + s.size ≤ 2000) (hst : vis = [] ∨ s.size = 0) (hbr : ∀ x ∈ vis ++ ints s, 0 ≤ x ∧ x ≤ 255) : Calls Tryd.prog 126 #[.pointer (some ⟨g, 0, none⟩), .int .u8 10] w0 fun e w' => ∃ (cs' : Array Value) (ap' : Nat) (lb' lr' : Int) (s' : ByteArray), cs'.size = 4096 ∧ ap' ≤ ap + 200 ∧ s'.size = 0 ∧ ((rp.fi (vis ++ ints s) = none ∧ ∃ v, e = .returned (.tuple #[v, .iface 143 (.pointer (some ae))]) ∧ ∃ r' : Nat, r' ≤ 4096 ∧ HH wb.heap.size wb w' ((g, .cells #[.slice (some ⟨gb, 0, none⟩) 4096 4096, .iface 42 (.pointer (some ⟨gr, 0, none⟩)), .int .i64 ((r' : Nat) : Int), .int .i64 ((r' + ([] : List Int).length : Nat) : Int), .nilIface, .int .i64 lb', .int .i64 lr'] 153 (0, 0)) :: (gb, .cells cs' 5 (0, 0)) :: (gr, .cells #[.string s', .slice Az zs.length cz, .int .i64 (ap' : Int), .bool false] 86 (0, 0)) :: L0)) ∨ (∃ i r1 cap, rp.fi (vis ++ ints s) = some i ∧ e = .returned (.tuple #[.slice (some ⟨gb, r1, none⟩) (i + 1) cap, .nilIface]) ∧ i + 1 ≤ cap ∧ bf.Row cs' r1 ((vis ++ ints s).take (i + 1)) ∧ bf.Row cs' (r1 + (i + 1)) ((vis ++ ints s).drop (i + 1)) ∧ r1 + (i + 1) + ((vis ++ ints s).drop (i + 1)).length ≤ 4096 ∧ HH wb.heap.size wb w' ((g, .cells #[.slice (some ⟨gb, 0, none⟩) 4096 4096, .iface 42 (.pointer (some ⟨gr, 0, none⟩)), .int .i64 ((r1 + (i + 1) : Nat) : Int), .int .i64 ((r1 + (i + 1) + ((vis ++ ints s).drop (i + 1)).length : Nat) : Int), .nilIface, .int .i64 lb', .int .i64 lr'] 153 (0, 0)) :: (gb, .cells cs' 5 (0, 0)) :: (gr, .cells #[.string s', .slice Az zs.length cz, .int .i64 (ap' : Int), .bool false] 86 (0, 0)) :: L0))) := by
  refine c_enter (args := [.pointer (some ⟨g, 0, none⟩), .int .u8 10]) (k := 128) Tryd.func126 rfl rfl rfl (fun a S => ?_)
  refine wp_seq ?_
  refine c_region ?_
  refine l_pure S (p_assign rfl) rfl rfl rfl ?_; clear S a; intro a S
  refine l_pure S (p_assign rfl) rfl rfl rfl ?_; clear S a; intro a S
  refine l_nil ?_
  refine e_then ?_
  refine wp_seq ?_
  refine c_region ?_
  refine l_pure S (p_assign rfl) rfl rfl rfl ?_; clear S a; intro a S
  refine l_nil ?_
  refine e_then ?_
  refine wp_seq ?_
  refine wp_block ?_
  refine c_loop (σ := Nat × Nat × List Int × ByteArray × Array Value × Nat × Value × Nat) (fun s_ a w => match s_ with | ⟨s0, r2, v2, s2, c2, a2, er, mu⟩ => SL a 130 [] [(0, .pointer (some ⟨g, 0, none⟩)), (1, .int .u8 10), (4, .slice none 0 0), (5, .nilIface), (6, .int .i64 (s0 : Int))] ∧ HH (wb.heap.size) wb w ((g, .cells #[.slice (some ⟨gb, 0, none⟩) 4096 4096, .iface 42 (.pointer (some ⟨gr, 0, none⟩)), .int .i64 (r2 : Int), .int .i64 ((r2 + v2.length : Nat) : Int), er, .int .i64 lb, .int .i64 lr] 153 (0, 0)) :: (gb, .cells c2 5 (0, 0)) :: (gr, .cells #[.string s2, .slice Az zs.length cz, .int .i64 (a2 : Int), .bool false] 86 (0, 0)) :: L0) ∧ (v2 ++ ints s2 = vis ++ ints s ∧ c2.size = 4096 ∧ bf.Row c2 r2 v2 ∧ r2 + v2.length ≤ 4096 ∧ a2 ≤ ap + 100 * (2 - mu) ∧ mu ≤ 2 ∧ s0 ≤ v2.length ∧ (∀ j, j < s0 → v2.getD j 0 ≠ 10) ∧ ((er = .nilIface ∧ 1 ≤ mu ∧ (mu = 1 → s2.size = 0) ∧ (v2 = [] ∨ s2.size = 0)) ∨ (er = .iface 143 (.pointer (some ae)) ∧ mu = 0 ∧ s2.size = 0 ∧ s0 = v2.length)))) (fun s_ => match s_ with | ⟨s0, r2, v2, s2, c2, a2, er, mu⟩ => mu) ⟨0, r, vis, s, cs, ap, .nilIface, if s.size = 0 then 1 else 2⟩ ⟨S.only ⟨rfl, rfl, rfl, rfl, rfl, trivial⟩, H, ⟨rfl, hcs, hrow, hw, by omega, by split <;> omega, Nat.zero_le _, fun j h => by omega, .inl ⟨rfl, by split <;> omega, fun h => by split at h <;> omega, hst⟩⟩⟩ ?_
  clear S a H; rintro ⟨s0, r2, v2, s2, c2, a2, er, mu⟩ a w ⟨S, H, hinv⟩
  obtain ⟨hY, hc2, hr2, hw2, ha2, hmu, hs0, hno, hcase⟩ := hinv
  have hYl := congrArg List.length hY
  rw [List.length_append, List.length_append, ints_len, ints_len] at hYl
  have hrg : ∀ x ∈ v2.drop s0, 0 ≤ x ∧ x ≤ 255 := fun x hx => hbr x (hY ▸ List.mem_append_left _ (List.mem_of_mem_drop hx))
  rcases hcase with ⟨rfl, hm1, hm2, hm3⟩ | ⟨rfl, hm1, hm2, hm3⟩
  · skip
    refine wp_block ?_
    refine wp_seq ?_
    refine wp_seq ?_
    refine d_start (id := 2) [] 18 #[false, false, false, false, false, false, false, false, false, false, false, false, false, false, false, false, false, false] H rfl rfl rfl (fun w H => ?_)
    refine d_pure (i := 0) #[true, false, false, false, false, false, false, false, false, false, false, false, false, false, false, false, false, false] S rfl (p_move rfl) (wanted_none rfl) rfl rfl (by kernel_rfl) (fun _ _ _ h => h) ?_; clear S a; intro a S
    refine d_pure (i := 1) #[true, true, false, false, false, false, false, false, false, false, false, false, false, false, false, false, false, false] S rfl (p_nilCheck rfl) (wanted_none rfl) rfl rfl (by kernel_rfl) (fun _ _ _ h => h) ?_; clear S a; intro a S
    refine d_pure (i := 2) #[true, true, true, false, false, false, false, false, false, false, false, false, false, false, false, false, false, false] S rfl (p_fieldAddr rfl (fun w => fa153_0 w _ _)) (wanted_none rfl) rfl rfl (by kernel_rfl) (fun _ _ _ h => h) ?_; clear S a; intro a S
    refine d_read (i := 3) #[true, true, true, true, false, false, false, false, false, false, false, false, false, false, false, false, false, false] S H rfl (r_load rfl List.mem_cons_self rfl (fun w hc => ld1 ag55 hc)) (wanted_none rfl) rfl rfl (by kernel_rfl) (fun _ _ _ h => h) ?_; clear S a; intro a S
    refine d_pure (i := 4) #[true, true, true, true, true, false, false, false, false, false, false, false, false, false, false, false, false, false] S rfl (p_move rfl) (wanted_none rfl) rfl rfl (by kernel_rfl) (fun _ _ _ h => h) ?_; clear S a; intro a S
    refine d_pure (i := 5) #[true, true, true, true, true, true, false, false, false, false, false, false, false, false, false, false, false, false] S rfl (p_nilCheck rfl) (wanted_none rfl) rfl rfl (by kernel_rfl) (fun _ _ _ h => h) ?_; clear S a; intro a S
    refine d_pure (i := 6) #[true, true, true, true, true, true, true, false, false, false, false, false, false, false, false, false, false, false] S rfl (p_fieldAddr rfl (fun w => fa153_2 w _ _)) (wanted_none rfl) rfl rfl (by kernel_rfl) (fun _ _ _ h => h) ?_; clear S a; intro a S
    refine d_read (i := 7) #[true, true, true, true, true, true, true, true, false, false, false, false, false, false, false, false, false, false] S H rfl (r_load rfl List.mem_cons_self rfl (fun w hc => ld1 ag3 hc)) (wanted_none rfl) rfl rfl (by kernel_rfl) (fun _ _ _ h => h) ?_; clear S a; intro a S
    refine d_pure (i := 8) #[true, true, true, true, true, true, true, true, true, false, false, false, false, false, false, false, false, false] S rfl (p_move rfl) (wanted_none rfl) rfl rfl (by kernel_rfl) (fun _ _ _ h => h) ?_; clear S a; intro a S
    refine d_pure (i := 9) #[true, true, true, true, true, true, true, true, true, true, false, false, false, false, false, false, false, false] S rfl (p_add rfl rfl (nat_add (x := r2) (y := s0) (by omega))) (wanted_none rfl) rfl rfl (by kernel_rfl) (fun _ _ _ h => h) ?_; clear S a; intro a S
    refine d_pure (i := 10) #[true, true, true, true, true, true, true, true, true, true, true, false, false, false, false, false, false, false] S rfl (p_move rfl) (wanted_none rfl) rfl rfl (by kernel_rfl) (fun _ _ _ h => h) ?_; clear S a; intro a S
    refine d_pure (i := 11) #[true, true, true, true, true, true, true, true, true, true, true, true, false, false, false, false, false, false] S rfl (p_nilCheck rfl) (wanted_none rfl) rfl rfl (by kernel_rfl) (fun _ _ _ h => h) ?_; clear S a; intro a S
    refine d_pure (i := 12) #[true, true, true, true, true, true, true, true, true, true, true, true, true, false, false, false, false, false] S rfl (p_fieldAddr rfl (fun w => fa153_3 w _ _)) (wanted_none rfl) rfl rfl (by kernel_rfl) (fun _ _ _ h => h) ?_; clear S a; intro a S
    refine d_read (i := 13) #[true, true, true, true, true, true, true, true, true, true, true, true, true, true, false, false, false, false] S H rfl (r_load rfl List.mem_cons_self rfl (fun w hc => ld1 ag3 hc)) (wanted_none rfl) rfl rfl (by kernel_rfl) (fun _ _ _ h => h) ?_; clear S a; intro a S
    refine d_pure (i := 14) #[true, true, true, true, true, true, true, true, true, true, true, true, true, true, true, false, false, false] S rfl (p_slice rfl (o_some rfl) (o_some rfl) (fun _ _ => o_none) (fun w => bf.sl_cut (m := r2 + s0) (h := r2 + v2.length) Tryd.underlying55 sz5 rfl rfl (by omega) (by omega))) (wanted_none rfl) rfl rfl (by kernel_rfl) (fun _ _ _ h => h) ?_; clear S a; intro a S
    rw [show r2 + v2.length - (r2 + s0) = (v2.drop s0).length by rw [List.length_drop]; omega] at S
    refine d_pure (i := 15) #[true, true, true, true, true, true, true, true, true, true, true, true, true, true, true, true, false, false] S rfl (p_move rfl) (wanted_none rfl) rfl rfl (by kernel_rfl) (fun _ _ _ h => h) ?_; clear S a; intro a S
    have hcon := ix.idx_ gb (offAt 0 4096 (r2 + s0)) (v2.drop s0).length (4096 - (r2 + s0)) (v2.drop s0) 10 _ rfl (rp.view H (List.mem_cons_of_mem _ List.mem_cons_self) hr2 (by omega))
    rw [rp.fi_index hrg] at hcon
    rcases hfi : rp.fi (v2.drop s0) with _ | i <;> rw [hfi] at hcon
    · skip
      refine d_call (i := 16) #[true, true, true, true, true, true, true, true, true, true, true, true, true, true, true, true, true, false] S rfl rfl rfl Tryd.func129 rfl rfl hcon (wanted_none rfl) rfl rfl (by kernel_rfl) rfl ?_
      rintro e w ⟨rfl, rfl⟩
      refine ⟨_, rfl, H, ?_⟩; clear hcon; clear S a; intro a S
      refine d_pure (i := 17) #[true, true, true, true, true, true, true, true, true, true, true, true, true, true, true, true, true, true] S rfl (p_assign rfl) (wanted_none rfl) rfl rfl (by kernel_rfl) (fun _ _ _ h => h) ?_; clear S a; intro a S
      refine d_done (by kernel_rfl) ?_
      refine e_then ?_
      refine wp_seq ?_
      refine c_region ?_
      refine l_pure S (p_move rfl) rfl rfl rfl ?_; clear S a; intro a S
      refine l_pure S (p_geq rfl rfl) rfl rfl rfl ?_; clear S a; intro a S
      refine l_nil ?_
      refine e_then ?_
      refine c_cond (b := false) S rfl (fun h => by cases h) (fun _ => ?_)
      refine wp_skip ?_
      refine e_then ?_
      refine wp_seq ?_
      refine wp_seq ?_
      refine c_region ?_
      refine l_pure S (p_move rfl) rfl rfl rfl ?_; clear S a; intro a S
      refine l_pure S (p_nilCheck rfl) rfl rfl rfl ?_; clear S a; intro a S
      refine l_pure S (p_fieldAddr rfl (fun w => fa153_4 w _ _)) rfl rfl rfl ?_; clear S a; intro a S
      refine l_read S H (r_load rfl List.mem_cons_self rfl (fun w hc => ld1 ag49 hc)) rfl rfl rfl ?_; clear S a; intro a S
      refine l_pure S (p_nilnilN mi49 rfl) rfl rfl rfl ?_; clear S a; intro a S
      refine l_nil ?_
      refine e_then ?_
      refine c_cond (b := false) S rfl (fun h => by cases h) (fun _ => ?_)
      refine wp_skip ?_
      refine e_then ?_
      refine wp_seq ?_
      refine wp_seq ?_
      refine d_start (id := 11) [] 8 #[false, false, false, false, false, false, false, false] H rfl rfl rfl (fun w H => ?_)
      refine d_pure (i := 0) #[true, false, false, false, false, false, false, false] S rfl (p_move rfl) (wanted_none rfl) rfl rfl (by kernel_rfl) (fun _ _ _ h => h) ?_; clear S a; intro a S
      refine d_pure (i := 2) #[true, false, true, false, false, false, false, false] S rfl (p_move rfl) (wanted_none rfl) rfl rfl (by kernel_rfl) (fun _ _ _ h => h) ?_; clear S a; intro a S
      refine d_pure (i := 3) #[true, false, true, true, false, false, false, false] S rfl (p_nilCheck rfl) (wanted_none rfl) rfl rfl (by kernel_rfl) (fun _ _ _ h => h) ?_; clear S a; intro a S
      refine d_pure (i := 4) #[true, false, true, true, true, false, false, false] S rfl (p_fieldAddr rfl (fun w => fa153_0 w _ _)) (wanted_none rfl) rfl rfl (by kernel_rfl) (fun _ _ _ h => h) ?_; clear S a; intro a S
      refine d_read (i := 5) #[true, false, true, true, true, true, false, false] S H rfl (r_load rfl List.mem_cons_self rfl (fun w hc => ld1 ag55 hc)) (wanted_none rfl) rfl rfl (by kernel_rfl) (fun _ _ _ h => h) ?_; clear S a; intro a S
      refine d_pure (i := 6) #[true, false, true, true, true, true, true, false] S rfl (p_len Tryd.underlying55 rfl) (wanted_none rfl) rfl rfl (by kernel_rfl) (fun _ _ _ h => h) ?_; clear S a; intro a S
      have hcon := bu.buffered_ wb _ _ _ g gb gr r2 v2 .nilIface lb lr H hw2
      refine d_call (i := 1) #[true, true, true, true, true, true, true, false] S rfl rfl rfl Tryd.func122 rfl rfl hcon (wanted_none rfl) rfl rfl (by kernel_rfl) rfl ?_
      rintro e w ⟨rfl, hH⟩
      refine ⟨_, rfl, hH, ?_⟩; clear hcon H; have H := hH; clear hH; clear S a; intro a S
      refine d_pure (i := 7) #[true, true, true, true, true, true, true, true] S rfl (p_geq rfl rfl) (wanted_none rfl) rfl rfl (by kernel_rfl) (fun _ _ _ h => h) ?_; clear S a; intro a S
      refine d_done (by kernel_rfl) ?_
      refine e_then ?_
      refine c_cond S rfl (fun c6 => by have c6 := of_decide_eq_true c6; exfalso; omega) (fun c6 => ?_)
      have c6 := of_decide_eq_false c6
      refine wp_skip ?_
      refine e_then ?_
      refine wp_seq ?_
      refine d_start (id := 15) [] 10 #[false, false, false, false, false, false, false, false, false, false] H rfl rfl rfl (fun w H => ?_)
      refine d_pure (i := 0) #[true, false, false, false, false, false, false, false, false, false] S rfl (p_move rfl) (wanted_none rfl) rfl rfl (by kernel_rfl) (fun _ _ _ h => h) ?_; clear S a; intro a S
      refine d_pure (i := 1) #[true, true, false, false, false, false, false, false, false, false] S rfl (p_nilCheck rfl) (wanted_none rfl) rfl rfl (by kernel_rfl) (fun _ _ _ h => h) ?_; clear S a; intro a S
      refine d_pure (i := 2) #[true, true, true, false, false, false, false, false, false, false] S rfl (p_fieldAddr rfl (fun w => fa153_3 w _ _)) (wanted_none rfl) rfl rfl (by kernel_rfl) (fun _ _ _ h => h) ?_; clear S a; intro a S
      refine d_read (i := 3) #[true, true, true, true, false, false, false, false, false, false] S H rfl (r_load rfl List.mem_cons_self rfl (fun w hc => ld1 ag3 hc)) (wanted_none rfl) rfl rfl (by kernel_rfl) (fun _ _ _ h => h) ?_; clear S a; intro a S
      refine d_pure (i := 4) #[true, true, true, true, true, false, false, false, false, false] S rfl (p_move rfl) (wanted_none rfl) rfl rfl (by kernel_rfl) (fun _ _ _ h => h) ?_; clear S a; intro a S
      refine d_pure (i := 5) #[true, true, true, true, true, true, false, false, false, false] S rfl (p_nilCheck rfl) (wanted_none rfl) rfl rfl (by kernel_rfl) (fun _ _ _ h => h) ?_; clear S a; intro a S
      refine d_pure (i := 6) #[true, true, true, true, true, true, true, false, false, false] S rfl (p_fieldAddr rfl (fun w => fa153_2 w _ _)) (wanted_none rfl) rfl rfl (by kernel_rfl) (fun _ _ _ h => h) ?_; clear S a; intro a S
      refine d_read (i := 7) #[true, true, true, true, true, true, true, true, false, false] S H rfl (r_load rfl List.mem_cons_self rfl (fun w hc => ld1 ag3 hc)) (wanted_none rfl) rfl rfl (by kernel_rfl) (fun _ _ _ h => h) ?_; clear S a; intro a S
      refine d_pure (i := 8) #[true, true, true, true, true, true, true, true, true, false] S rfl (p_sub rfl rfl (nat_sub (x := (r2 + v2.length)) (y := r2) (by omega) (by omega))) (wanted_none rfl) rfl rfl (by kernel_rfl) (fun _ _ _ h => h) ?_; clear S a; intro a S
      refine d_pure (i := 9) #[true, true, true, true, true, true, true, true, true, true] S rfl (p_assign rfl) (wanted_none rfl) rfl rfl (by kernel_rfl) (fun _ _ _ h => h) ?_; clear S a; intro a S
      refine d_done (by kernel_rfl) ?_
      refine e_then ?_
      refine c_region ?_
      refine l_pure S (p_move rfl) rfl rfl rfl ?_; clear S a; intro a S
      rw [show r2 + v2.length - r2 = v2.length by omega] at S
      have hcon := fi.fill_ wb _ _ g gb gr c2 r2 v2 s2 Az zs cz a2 lb lr ae hE hlt H hc2 hr2 hw2 (by omega) hC (.inl hzs) (by rw [hzs]; decide) (by omega) (by omega) (by omega)
      refine l_call S rfl rfl Tryd.func127 rfl rfl hcon rfl rfl rfl ?_
      rintro e w ⟨rfl, c3, a3, hc3, ha3, ⟨hs3, hr3, hH⟩ | ⟨k, hk, hk0, hk1, hk2, hr3, hH⟩⟩
      · skip
        refine ⟨_, rfl, ?_⟩; clear S a; intro a S; clear H hcon; have H := hH; clear hH
        refine l_nil ?_
        refine e_in 1 ?_
        refine e_then ?_
        exact ⟨⟨v2.length, 0, v2, s2, c3, a3, .iface 143 (.pointer (some ae)), 0⟩, ⟨S.only ⟨rfl, rfl, rfl, rfl, rfl, trivial⟩, H, ⟨hY, hc3, hr3, by omega, by omega, by omega, Nat.le_refl _, rp.no_more hfi hno, .inr ⟨rfl, rfl, hs3, rfl⟩⟩⟩, (show 0 < mu by omega)⟩
      · skip
        refine ⟨_, rfl, ?_⟩; clear S a; intro a S; clear H hcon; have H := hH; clear hH
        obtain rfl := hk hzs
        refine l_nil ?_
        refine e_in 1 ?_
        refine e_then ?_
        exact ⟨⟨v2.length, 0, v2 ++ (ints s2).take s2.size, s2.extract s2.size s2.size, c3, a3, .nilIface, 1⟩, ⟨S.only ⟨rfl, rfl, rfl, rfl, rfl, trivial⟩, H, ⟨by rw [show ints (s2.extract s2.size s2.size) = [] from rp.ints_nil.2 (by rw [ByteArray.size_extract]; omega), List.append_nil, List.take_of_length_le (by rw [ints_len]; exact Nat.le_refl _)]; exact hY, hc3, hr3, by rw [List.length_append, List.length_take, ints_len]; omega, by omega, by omega, by rw [List.length_append]; omega, fun j hj => by rw [List.getD_eq_getElem?_getD, List.getElem?_append_left hj, ← List.getD_eq_getElem?_getD]; exact rp.no_more hfi hno j hj, .inl ⟨rfl, by omega, fun _ => by rw [ByteArray.size_extract]; omega, .inr (by rw [ByteArray.size_extract]; omega)⟩⟩⟩, (show 1 < mu by omega)⟩
    · skip
      refine d_call (i := 16) #[true, true, true, true, true, true, true, true, true, true, true, true, true, true, true, true, true, false] S rfl rfl rfl Tryd.func129 rfl rfl hcon (wanted_none rfl) rfl rfl (by kernel_rfl) rfl ?_
      rintro e w ⟨rfl, rfl⟩
      refine ⟨_, rfl, H, ?_⟩; clear hcon; clear S a; intro a S
      have hi := rp.fi_some.1 hfi
      rw [List.length_drop] at hi
      have hfv := rp.fi_drop hfi hno
      refine d_pure (i := 17) #[true, true, true, true, true, true, true, true, true, true, true, true, true, true, true, true, true, true] S rfl (p_assign rfl) (wanted_none rfl) rfl rfl (by kernel_rfl) (fun _ _ _ h => h) ?_; clear S a; intro a S
      refine d_done (by kernel_rfl) ?_
      refine e_then ?_
      refine wp_seq ?_
      refine c_region ?_
      refine l_pure S (p_move rfl) rfl rfl rfl ?_; clear S a; intro a S
      refine l_pure S (p_geq rfl rfl) rfl rfl rfl ?_; clear S a; intro a S
      refine l_nil ?_
      refine e_then ?_
      refine c_cond S rfl (fun _ => ?_) (fun h => by rw [(show decide ((i : Int) ≥ 0) = true from decide_eq_true (by omega))] at h; cases h)
      refine wp_seq ?_
      refine c_region ?_
      refine l_pure S (p_move rfl) rfl rfl rfl ?_; clear S a; intro a S
      refine l_pure S (p_move rfl) rfl rfl rfl ?_; clear S a; intro a S
      refine l_pure S (p_add rfl rfl (nat_add (x := i) (y := s0) (by omega))) rfl rfl rfl ?_; clear S a; intro a S
      refine l_pure S (p_assign rfl) rfl rfl rfl ?_; clear S a; intro a S
      refine l_nil ?_
      refine e_then ?_
      refine wp_seq ?_
      refine d_start (id := 5) [] 17 #[false, false, false, false, false, false, false, false, false, false, false, false, false, false, false, false, false] H rfl rfl rfl (fun w H => ?_)
      refine d_pure (i := 0) #[true, false, false, false, false, false, false, false, false, false, false, false, false, false, false, false, false] S rfl (p_move rfl) (wanted_none rfl) rfl rfl (by kernel_rfl) (fun _ _ _ h => h) ?_; clear S a; intro a S
      refine d_pure (i := 1) #[true, true, false, false, false, false, false, false, false, false, false, false, false, false, false, false, false] S rfl (p_nilCheck rfl) (wanted_none rfl) rfl rfl (by kernel_rfl) (fun _ _ _ h => h) ?_; clear S a; intro a S
      refine d_pure (i := 2) #[true, true, true, false, false, false, false, false, false, false, false, false, false, false, false, false, false] S rfl (p_fieldAddr rfl (fun w => fa153_0 w _ _)) (wanted_none rfl) rfl rfl (by kernel_rfl) (fun _ _ _ h => h) ?_; clear S a; intro a S
      refine d_read (i := 3) #[true, true, true, true, false, false, false, false, false, false, false, false, false, false, false, false, false] S H rfl (r_load rfl List.mem_cons_self rfl (fun w hc => ld1 ag55 hc)) (wanted_none rfl) rfl rfl (by kernel_rfl) (fun _ _ _ h => h) ?_; clear S a; intro a S
      refine d_pure (i := 4) #[true, true, true, true, true, false, false, false, false, false, false, false, false, false, false, false, false] S rfl (p_move rfl) (wanted_none rfl) rfl rfl (by kernel_rfl) (fun _ _ _ h => h) ?_; clear S a; intro a S
      refine d_pure (i := 5) #[true, true, true, true, true, true, false, false, false, false, false, false, false, false, false, false, false] S rfl (p_nilCheck rfl) (wanted_none rfl) rfl rfl (by kernel_rfl) (fun _ _ _ h => h) ?_; clear S a; intro a S
      refine d_pure (i := 6) #[true, true, true, true, true, true, true, false, false, false, false, false, false, false, false, false, false] S rfl (p_fieldAddr rfl (fun w => fa153_2 w _ _)) (wanted_none rfl) rfl rfl (by kernel_rfl) (fun _ _ _ h => h) ?_; clear S a; intro a S
      refine d_read (i := 7) #[true, true, true, true, true, true, true, true, false, false, false, false, false, false, false, false, false] S H rfl (r_load rfl List.mem_cons_self rfl (fun w hc => ld1 ag3 hc)) (wanted_none rfl) rfl rfl (by kernel_rfl) (fun _ _ _ h => h) ?_; clear S a; intro a S
      refine d_pure (i := 8) #[true, true, true, true, true, true, true, true, true, false, false, false, false, false, false, false, false] S rfl (p_move rfl) (wanted_none rfl) rfl rfl (by kernel_rfl) (fun _ _ _ h => h) ?_; clear S a; intro a S
      refine d_pure (i := 9) #[true, true, true, true, true, true, true, true, true, true, false, false, false, false, false, false, false] S rfl (p_nilCheck rfl) (wanted_none rfl) rfl rfl (by kernel_rfl) (fun _ _ _ h => h) ?_; clear S a; intro a S
      refine d_pure (i := 10) #[true, true, true, true, true, true, true, true, true, true, true, false, false, false, false, false, false] S rfl (p_fieldAddr rfl (fun w => fa153_2 w _ _)) (wanted_none rfl) rfl rfl (by kernel_rfl) (fun _ _ _ h => h) ?_; clear S a; intro a S
      refine d_read (i := 11) #[true, true, true, true, true, true, true, true, true, true, true, true, false, false, false, false, false] S H rfl (r_load rfl List.mem_cons_self rfl (fun w hc => ld1 ag3 hc)) (wanted_none rfl) rfl rfl (by kernel_rfl) (fun _ _ _ h => h) ?_; clear S a; intro a S
      refine d_pure (i := 12) #[true, true, true, true, true, true, true, true, true, true, true, true, true, false, false, false, false] S rfl (p_move rfl) (wanted_none rfl) rfl rfl (by kernel_rfl) (fun _ _ _ h => h) ?_; clear S a; intro a S
      refine d_pure (i := 13) #[true, true, true, true, true, true, true, true, true, true, true, true, true, true, false, false, false] S rfl (p_add rfl rfl (nat_add (x := r2) (y := (i + s0)) (by omega))) (wanted_none rfl) rfl rfl (by kernel_rfl) (fun _ _ _ h => h) ?_; clear S a; intro a S
      refine d_pure (i := 14) #[true, true, true, true, true, true, true, true, true, true, true, true, true, true, true, false, false] S rfl (p_add rfl rfl (nat_add (x := (r2 + (i + s0))) (y := 1) (by omega))) (wanted_none rfl) rfl rfl (by kernel_rfl) (fun _ _ _ h => h) ?_; clear S a; intro a S
      refine d_pure (i := 15) #[true, true, true, true, true, true, true, true, true, true, true, true, true, true, true, true, false] S rfl (p_slice rfl (o_some rfl) (o_some rfl) (fun _ _ => o_none) (fun w => bf.sl_cut (m := r2) (h := r2 + (i + s0) + 1) Tryd.underlying55 sz5 rfl rfl (by omega) (by omega))) (wanted_none rfl) rfl rfl (by kernel_rfl) (fun _ _ _ h => h) ?_; clear S a; intro a S
      rw [show offAt 0 4096 r2 = r2 by unfold offAt; rw [if_neg (by omega), Nat.zero_add], show r2 + (i + s0) + 1 - r2 = i + s0 + 1 by omega] at S
      refine d_pure (i := 16) #[true, true, true, true, true, true, true, true, true, true, true, true, true, true, true, true, true] S rfl (p_assign rfl) (wanted_none rfl) rfl rfl (by kernel_rfl) (fun _ _ _ h => h) ?_; clear S a; intro a S
      refine d_done (by kernel_rfl) ?_
      refine e_then ?_
      refine wp_seq ?_
      refine c_region ?_
      refine l_pure S (p_move rfl) rfl rfl rfl ?_; clear S a; intro a S
      refine l_pure S (p_nilCheck rfl) rfl rfl rfl ?_; clear S a; intro a S
      refine l_pure S (p_fieldAddr rfl (fun w => fa153_2 w _ _)) rfl rfl rfl ?_; clear S a; intro a S
      refine l_read S H (r_load rfl List.mem_cons_self rfl (fun w hc => ld1 ag3 hc)) rfl rfl rfl ?_; clear S a; intro a S
      refine l_pure S (p_move rfl) rfl rfl rfl ?_; clear S a; intro a S
      refine l_pure S (p_add rfl rfl (nat_add (x := (i + s0)) (y := 1) (by omega))) rfl rfl rfl ?_; clear S a; intro a S
      refine l_pure S (p_add rfl rfl (nat_add (x := r2) (y := ((i + s0) + 1)) (by omega))) rfl rfl rfl ?_; clear S a; intro a S
      refine l_pure S (p_nilCheck rfl) rfl rfl rfl ?_; clear S a; intro a S
      refine l_pure S (p_fieldAddr rfl (fun w => fa153_2 w _ _)) rfl rfl rfl ?_; clear S a; intro a S
      refine l_store S H rfl rfl rfl .here (by first | decide | simp [Value.cells]) (fun w u hc hz => st1 sz3 rfl hc hz) rfl rfl ?_; clear S a H; intro w a H S
      refine l_nil ?_
      refine e_then ?_
      refine wp_exit ?_
      refine e_then_exit ?_
      refine e_in_other rfl ?_
      refine e_then_exit ?_
      refine e_in_exit ?_
      refine e_then ?_
      refine wp_seq ?_
      refine wp_seq ?_
      refine c_region ?_
      refine l_pure S (p_move rfl) rfl rfl rfl ?_; clear S a; intro a S
      refine l_pure S (p_len Tryd.underlying55 rfl) rfl rfl rfl ?_; clear S a; intro a S
      refine l_pure S (p_sub rfl rfl (nat_sub (x := (i + s0 + 1)) (y := 1) (by omega) (by omega))) rfl rfl rfl ?_; clear S a; intro a S
      refine l_pure S (p_assign rfl) rfl rfl rfl ?_; clear S a; intro a S
      refine l_nil ?_
      refine e_then ?_
      refine wp_seq ?_
      refine c_region ?_
      refine l_pure S (p_move rfl) rfl rfl rfl ?_; clear S a; intro a S
      refine l_pure S (p_geq rfl rfl) rfl rfl rfl ?_; clear S a; intro a S
      refine l_nil ?_
      refine e_then ?_
      refine c_cond S rfl (fun bc10 => ?_) (fun bc10 => ?_)
      · skip
        have c10 := bc10
        have c10 := of_decide_eq_true c10
        refine wp_seq ?_
        refine c_region ?_
        refine l_pure S (p_move rfl) rfl rfl rfl ?_; clear S a; intro a S
        refine l_pure S (p_move rfl) rfl rfl rfl ?_; clear S a; intro a S
        refine l_pure S (p_move rfl) rfl rfl rfl ?_; clear S a; intro a S
        refine l_pure S (p_indexAddr rfl rfl (fun w => ia_slice Tryd.underlying55 sz5 (by omega) (by omega))) rfl rfl rfl ?_; clear S a; intro a S
        obtain ⟨vb, hvb⟩ : ∃ vb, v2[((i + s0 + 1) - 1)]? = some vb := ⟨_, get_some 0 (show ((i + s0 + 1) - 1) < v2.length by omega)⟩
        refine l_read S H (r_load (v := .int .u8 vb) rfl (List.mem_cons_of_mem _ List.mem_cons_self) (by rw [Int.toNat_natCast, Nat.mul_one]; exact hr2 _ _ hvb) (fun w hc => ld1 ag5 hc)) rfl rfl rfl ?_; clear S a; intro a S
        refine l_pure S (p_conv rfl (fun w => cv_int Tryd.underlying5 Tryd.underlying3 rfl)) rfl rfl rfl ?_; clear S a; intro a S
        refine l_pure S (p_nilCheck rfl) rfl rfl rfl ?_; clear S a; intro a S
        refine l_pure S (p_fieldAddr rfl (fun w => fa153_5 w _ _)) rfl rfl rfl ?_; clear S a; intro a S
        refine l_store S H rfl rfl rfl .here (by first | decide | simp [Value.cells]) (fun w u hc hz => st1 sz3 rfl hc hz) rfl rfl ?_; clear S a H; intro w a H S
        refine l_nil ?_
        refine e_then ?_
        refine c_region ?_
        refine l_pure S (p_move rfl) rfl rfl rfl ?_; clear S a; intro a S
        refine l_pure S (p_nilCheck rfl) rfl rfl rfl ?_; clear S a; intro a S
        refine l_pure S (p_fieldAddr rfl (fun w => fa153_6 w _ _)) rfl rfl rfl ?_; clear S a; intro a S
        refine l_store S H rfl rfl rfl .here (by first | decide | simp [Value.cells]) (fun w u hc hz => st1 sz3 rfl hc hz) rfl rfl ?_; clear S a H; intro w a H S
        refine l_nil ?_
        refine e_then ?_
        refine wp_ret ?_
        have hs2 : s2.size = 0 := by rcases hm3 with rfl | h; simp at hi; exact h
        have hv2 : v2 = vis ++ ints s := by rw [← hY, show ints s2 = [] from rp.ints_nil.2 hs2, List.append_nil]
        rw [hv2] at hr2 hfv hi hYl H hw2
        rw [show r2 + (i + s0 + 1) = r2 + (i + s0 + 1) from rfl, show r2 + (vis ++ ints s).length = r2 + (i + s0 + 1) + ((vis ++ ints s).drop (i + s0 + 1)).length by rw [List.length_drop]; omega] at H
        exact r_ret2 S rfl rfl rfl ⟨c2, a2, (IntKind.i64.wrap vb), (-1), s2, hc2, by omega, hs2, .inr ⟨i + s0, r2, 4096 - r2, hfv, rfl, by omega, rp.row_take hr2, bf.row_drop hr2, by rw [List.length_drop]; omega, H⟩⟩
      · skip
        have c10 := bc10
        have c10 := of_decide_eq_false c10
        refine wp_skip ?_
        refine e_then ?_
        refine wp_ret ?_
        have hs2 : s2.size = 0 := by rcases hm3 with rfl | h; simp at hi; exact h
        have hv2 : v2 = vis ++ ints s := by rw [← hY, show ints s2 = [] from rp.ints_nil.2 hs2, List.append_nil]
        rw [hv2] at hr2 hfv hi hYl H hw2
        rw [show r2 + (i + s0 + 1) = r2 + (i + s0 + 1) from rfl, show r2 + (vis ++ ints s).length = r2 + (i + s0 + 1) + ((vis ++ ints s).drop (i + s0 + 1)).length by rw [List.length_drop]; omega] at H
        exact r_ret2 S rfl rfl rfl ⟨c2, a2, lb, lr, s2, hc2, by omega, hs2, .inr ⟨i + s0, r2, 4096 - r2, hfv, rfl, by omega, rp.row_take hr2, bf.row_drop hr2, by rw [List.length_drop]; omega, H⟩⟩
  · skip
    refine wp_block ?_
    refine wp_seq ?_
    refine wp_seq ?_
    refine d_start (id := 2) [] 18 #[false, false, false, false, false, false, false, false, false, false, false, false, false, false, false, false, false, false] H rfl rfl rfl (fun w H => ?_)
    refine d_pure (i := 0) #[true, false, false, false, false, false, false, false, false, false, false, false, false, false, false, false, false, false] S rfl (p_move rfl) (wanted_none rfl) rfl rfl (by kernel_rfl) (fun _ _ _ h => h) ?_; clear S a; intro a S
    refine d_pure (i := 1) #[true, true, false, false, false, false, false, false, false, false, false, false, false, false, false, false, false, false] S rfl (p_nilCheck rfl) (wanted_none rfl) rfl rfl (by kernel_rfl) (fun _ _ _ h => h) ?_; clear S a; intro a S
    refine d_pure (i := 2) #[true, true, true, false, false, false, false, false, false, false, false, false, false, false, false, false, false, false] S rfl (p_fieldAddr rfl (fun w => fa153_0 w _ _)) (wanted_none rfl) rfl rfl (by kernel_rfl) (fun _ _ _ h => h) ?_; clear S a; intro a S
    refine d_read (i := 3) #[true, true, true, true, false, false, false, false, false, false, false, false, false, false, false, false, false, false] S H rfl (r_load rfl List.mem_cons_self rfl (fun w hc => ld1 ag55 hc)) (wanted_none rfl) rfl rfl (by kernel_rfl) (fun _ _ _ h => h) ?_; clear S a; intro a S
    refine d_pure (i := 4) #[true, true, true, true, true, false, false, false, false, false, false, false, false, false, false, false, false, false] S rfl (p_move rfl) (wanted_none rfl) rfl rfl (by kernel_rfl) (fun _ _ _ h => h) ?_; clear S a; intro a S
    refine d_pure (i := 5) #[true, true, true, true, true, true, false, false, false, false, false, false, false, false, false, false, false, false] S rfl (p_nilCheck rfl) (wanted_none rfl) rfl rfl (by kernel_rfl) (fun _ _ _ h => h) ?_; clear S a; intro a S
    refine d_pure (i := 6) #[true, true, true, true, true, true, true, false, false, false, false, false, false, false, false, false, false, false] S rfl (p_fieldAddr rfl (fun w => fa153_2 w _ _)) (wanted_none rfl) rfl rfl (by kernel_rfl) (fun _ _ _ h => h) ?_; clear S a; intro a S
    refine d_read (i := 7) #[true, true, true, true, true, true, true, true, false, false, false, false, false, false, false, false, false, false] S H rfl (r_load rfl List.mem_cons_self rfl (fun w hc => ld1 ag3 hc)) (wanted_none rfl) rfl rfl (by kernel_rfl) (fun _ _ _ h => h) ?_; clear S a; intro a S
    refine d_pure (i := 8) #[true, true, true, true, true, true, true, true, true, false, false, false, false, false, false, false, false, false] S rfl (p_move rfl) (wanted_none rfl) rfl rfl (by kernel_rfl) (fun _ _ _ h => h) ?_; clear S a; intro a S
    refine d_pure (i := 9) #[true, true, true, true, true, true, true, true, true, true, false, false, false, false, false, false, false, false] S rfl (p_add rfl rfl (nat_add (x := r2) (y := s0) (by omega))) (wanted_none rfl) rfl rfl (by kernel_rfl) (fun _ _ _ h => h) ?_; clear S a; intro a S
    refine d_pure (i := 10) #[true, true, true, true, true, true, true, true, true, true, true, false, false, false, false, false, false, false] S rfl (p_move rfl) (wanted_none rfl) rfl rfl (by kernel_rfl) (fun _ _ _ h => h) ?_; clear S a; intro a S
    refine d_pure (i := 11) #[true, true, true, true, true, true, true, true, true, true, true, true, false, false, false, false, false, false] S rfl (p_nilCheck rfl) (wanted_none rfl) rfl rfl (by kernel_rfl) (fun _ _ _ h => h) ?_; clear S a; intro a S
    refine d_pure (i := 12) #[true, true, true, true, true, true, true, true, true, true, true, true, true, false, false, false, false, false] S rfl (p_fieldAddr rfl (fun w => fa153_3 w _ _)) (wanted_none rfl) rfl rfl (by kernel_rfl) (fun _ _ _ h => h) ?_; clear S a; intro a S
    refine d_read (i := 13) #[true, true, true, true, true, true, true, true, true, true, true, true, true, true, false, false, false, false] S H rfl (r_load rfl List.mem_cons_self rfl (fun w hc => ld1 ag3 hc)) (wanted_none rfl) rfl rfl (by kernel_rfl) (fun _ _ _ h => h) ?_; clear S a; intro a S
    refine d_pure (i := 14) #[true, true, true, true, true, true, true, true, true, true, true, true, true, true, true, false, false, false] S rfl (p_slice rfl (o_some rfl) (o_some rfl) (fun _ _ => o_none) (fun w => bf.sl_cut (m := r2 + s0) (h := r2 + v2.length) Tryd.underlying55 sz5 rfl rfl (by omega) (by omega))) (wanted_none rfl) rfl rfl (by kernel_rfl) (fun _ _ _ h => h) ?_; clear S a; intro a S
    rw [show r2 + v2.length - (r2 + s0) = (v2.drop s0).length by rw [List.length_drop]; omega] at S
    refine d_pure (i := 15) #[true, true, true, true, true, true, true, true, true, true, true, true, true, true, true, true, false, false] S rfl (p_move rfl) (wanted_none rfl) rfl rfl (by kernel_rfl) (fun _ _ _ h => h) ?_; clear S a; intro a S
    have hcon := ix.idx_ gb (offAt 0 4096 (r2 + s0)) (v2.drop s0).length (4096 - (r2 + s0)) (v2.drop s0) 10 _ rfl (rp.view H (List.mem_cons_of_mem _ List.mem_cons_self) hr2 (by omega))
    rw [rp.fi_index hrg] at hcon
    rcases hfi : rp.fi (v2.drop s0) with _ | i <;> rw [hfi] at hcon
    · skip
      refine d_call (i := 16) #[true, true, true, true, true, true, true, true, true, true, true, true, true, true, true, true, true, false] S rfl rfl rfl Tryd.func129 rfl rfl hcon (wanted_none rfl) rfl rfl (by kernel_rfl) rfl ?_
      rintro e w ⟨rfl, rfl⟩
      refine ⟨_, rfl, H, ?_⟩; clear hcon; clear S a; intro a S
      refine d_pure (i := 17) #[true, true, true, true, true, true, true, true, true, true, true, true, true, true, true, true, true, true] S rfl (p_assign rfl) (wanted_none rfl) rfl rfl (by kernel_rfl) (fun _ _ _ h => h) ?_; clear S a; intro a S
      refine d_done (by kernel_rfl) ?_
      refine e_then ?_
      refine wp_seq ?_
      refine c_region ?_
      refine l_pure S (p_move rfl) rfl rfl rfl ?_; clear S a; intro a S
      refine l_pure S (p_geq rfl rfl) rfl rfl rfl ?_; clear S a; intro a S
      refine l_nil ?_
      refine e_then ?_
      refine c_cond (b := false) S rfl (fun h => by cases h) (fun _ => ?_)
      refine wp_skip ?_
      refine e_then ?_
      refine wp_seq ?_
      refine wp_seq ?_
      refine c_region ?_
      refine l_pure S (p_move rfl) rfl rfl rfl ?_; clear S a; intro a S
      refine l_pure S (p_nilCheck rfl) rfl rfl rfl ?_; clear S a; intro a S
      refine l_pure S (p_fieldAddr rfl (fun w => fa153_4 w _ _)) rfl rfl rfl ?_; clear S a; intro a S
      refine l_read S H (r_load rfl List.mem_cons_self rfl (fun w hc => ld1 ag49 hc)) rfl rfl rfl ?_; clear S a; intro a S
      refine l_pure S (p_ifnilN mi49 rfl rfl) rfl rfl rfl ?_; clear S a; intro a S
      refine l_nil ?_
      refine e_then ?_
      refine c_cond (b := true) S rfl (fun _ => ?_) (fun h => by cases h)
      refine wp_seq ?_
      refine d_start (id := 8) [] 14 #[false, false, false, false, false, false, false, false, false, false, false, false, false, false] H rfl rfl rfl (fun w H => ?_)
      refine d_pure (i := 0) #[true, false, false, false, false, false, false, false, false, false, false, false, false, false] S rfl (p_move rfl) (wanted_none rfl) rfl rfl (by kernel_rfl) (fun _ _ _ h => h) ?_; clear S a; intro a S
      refine d_pure (i := 1) #[true, true, false, false, false, false, false, false, false, false, false, false, false, false] S rfl (p_nilCheck rfl) (wanted_none rfl) rfl rfl (by kernel_rfl) (fun _ _ _ h => h) ?_; clear S a; intro a S
      refine d_pure (i := 2) #[true, true, true, false, false, false, false, false, false, false, false, false, false, false] S rfl (p_fieldAddr rfl (fun w => fa153_0 w _ _)) (wanted_none rfl) rfl rfl (by kernel_rfl) (fun _ _ _ h => h) ?_; clear S a; intro a S
      refine d_read (i := 3) #[true, true, true, true, false, false, false, false, false, false, false, false, false, false] S H rfl (r_load rfl List.mem_cons_self rfl (fun w hc => ld1 ag55 hc)) (wanted_none rfl) rfl rfl (by kernel_rfl) (fun _ _ _ h => h) ?_; clear S a; intro a S
      refine d_pure (i := 4) #[true, true, true, true, true, false, false, false, false, false, false, false, false, false] S rfl (p_move rfl) (wanted_none rfl) rfl rfl (by kernel_rfl) (fun _ _ _ h => h) ?_; clear S a; intro a S
      refine d_pure (i := 5) #[true, true, true, true, true, true, false, false, false, false, false, false, false, false] S rfl (p_nilCheck rfl) (wanted_none rfl) rfl rfl (by kernel_rfl) (fun _ _ _ h => h) ?_; clear S a; intro a S
      refine d_pure (i := 6) #[true, true, true, true, true, true, true, false, false, false, false, false, false, false] S rfl (p_fieldAddr rfl (fun w => fa153_2 w _ _)) (wanted_none rfl) rfl rfl (by kernel_rfl) (fun _ _ _ h => h) ?_; clear S a; intro a S
      refine d_read (i := 7) #[true, true, true, true, true, true, true, true, false, false, false, false, false, false] S H rfl (r_load rfl List.mem_cons_self rfl (fun w hc => ld1 ag3 hc)) (wanted_none rfl) rfl rfl (by kernel_rfl) (fun _ _ _ h => h) ?_; clear S a; intro a S
      refine d_pure (i := 8) #[true, true, true, true, true, true, true, true, true, false, false, false, false, false] S rfl (p_move rfl) (wanted_none rfl) rfl rfl (by kernel_rfl) (fun _ _ _ h => h) ?_; clear S a; intro a S
      refine d_pure (i := 9) #[true, true, true, true, true, true, true, true, true, true, false, false, false, false] S rfl (p_nilCheck rfl) (wanted_none rfl) rfl rfl (by kernel_rfl) (fun _ _ _ h => h) ?_; clear S a; intro a S
      refine d_pure (i := 10) #[true, true, true, true, true, true, true, true, true, true, true, false, false, false] S rfl (p_fieldAddr rfl (fun w => fa153_3 w _ _)) (wanted_none rfl) rfl rfl (by kernel_rfl) (fun _ _ _ h => h) ?_; clear S a; intro a S
      refine d_read (i := 11) #[true, true, true, true, true, true, true, true, true, true, true, true, false, false] S H rfl (r_load rfl List.mem_cons_self rfl (fun w hc => ld1 ag3 hc)) (wanted_none rfl) rfl rfl (by kernel_rfl) (fun _ _ _ h => h) ?_; clear S a; intro a S
      refine d_pure (i := 12) #[true, true, true, true, true, true, true, true, true, true, true, true, true, false] S rfl (p_slice rfl (o_some rfl) (o_some rfl) (fun _ _ => o_none) (fun w => bf.sl_cut (m := r2) (h := r2 + v2.length) Tryd.underlying55 sz5 rfl rfl (by omega) (by omega))) (wanted_none rfl) rfl rfl (by kernel_rfl) (fun _ _ _ h => h) ?_; clear S a; intro a S
      rw [show r2 + v2.length - r2 = v2.length by omega] at S
      refine d_pure (i := 13) #[true, true, true, true, true, true, true, true, true, true, true, true, true, true] S rfl (p_assign rfl) (wanted_none rfl) rfl rfl (by kernel_rfl) (fun _ _ _ h => h) ?_; clear S a; intro a S
      refine d_done (by kernel_rfl) ?_
      refine e_then ?_
      refine wp_seq ?_
      refine c_region ?_
      refine l_pure S (p_move rfl) rfl rfl rfl ?_; clear S a; intro a S
      refine l_pure S (p_move rfl) rfl rfl rfl ?_; clear S a; intro a S
      refine l_pure S (p_nilCheck rfl) rfl rfl rfl ?_; clear S a; intro a S
      refine l_pure S (p_fieldAddr rfl (fun w => fa153_3 w _ _)) rfl rfl rfl ?_; clear S a; intro a S
      refine l_read S H (r_load rfl List.mem_cons_self rfl (fun w hc => ld1 ag3 hc)) rfl rfl rfl ?_; clear S a; intro a S
      refine l_pure S (p_nilCheck rfl) rfl rfl rfl ?_; clear S a; intro a S
      refine l_pure S (p_fieldAddr rfl (fun w => fa153_2 w _ _)) rfl rfl rfl ?_; clear S a; intro a S
      refine l_store S H rfl rfl rfl .here (by first | decide | simp [Value.cells]) (fun w u hc hz => st1 sz3 rfl hc hz) rfl rfl ?_; clear S a H; intro w a H S
      refine l_nil ?_
      refine e_then ?_
      refine wp_seq ?_
      refine c_region ?_
      refine l_pure S (p_move rfl) rfl rfl rfl ?_; clear S a; intro a S
      have hcon := bu.readErr_ wb _ _ _ g gb gr (r2 + v2.length) [] (.iface 143 (.pointer (some ae))) lb lr H
      refine l_call S rfl rfl Tryd.func128 rfl rfl (hcon) rfl rfl rfl ?_
      rintro e w ⟨rfl, hH⟩
      refine ⟨_, rfl, ?_⟩; clear S a; intro a S
      clear H hcon; have H := hH; clear hH
      refine l_pure S (p_assign rfl) rfl rfl rfl ?_; clear S a; intro a S
      refine l_nil ?_
      refine e_then ?_
      refine wp_exit ?_
      refine e_then_exit ?_
      refine e_in_other rfl ?_
      refine e_then_exit ?_
      refine e_in_exit ?_
      refine e_then ?_
      refine wp_seq ?_
      refine wp_seq ?_
      refine c_region ?_
      refine l_pure S (p_move rfl) rfl rfl rfl ?_; clear S a; intro a S
      refine l_pure S (p_len Tryd.underlying55 rfl) rfl rfl rfl ?_; clear S a; intro a S
      refine l_pure S (p_sub (r := (v2.length : Int) - 1) rfl rfl (IntWalk.i64_in _ (by omega))) rfl rfl rfl ?_; clear S a; intro a S
      refine l_pure S (p_assign rfl) rfl rfl rfl ?_; clear S a; intro a S
      refine l_nil ?_
      refine e_then ?_
      refine wp_seq ?_
      refine c_region ?_
      refine l_pure S (p_move rfl) rfl rfl rfl ?_; clear S a; intro a S
      refine l_pure S (p_geq rfl rfl) rfl rfl rfl ?_; clear S a; intro a S
      refine l_nil ?_
      refine e_then ?_
      refine c_cond S rfl (fun bc16 => ?_) (fun bc16 => ?_)
      · skip
        have c16 := bc16
        have c16 := of_decide_eq_true c16
        obtain ⟨n1, hn1⟩ : ∃ n1 : Nat, v2.length = n1 + 1 := ⟨v2.length - 1, by omega⟩
        rw [show ((v2.length : Int) - 1) = (n1 : Int) by omega] at S
        refine wp_seq ?_
        refine c_region ?_
        refine l_pure S (p_move rfl) rfl rfl rfl ?_; clear S a; intro a S
        refine l_pure S (p_move rfl) rfl rfl rfl ?_; clear S a; intro a S
        refine l_pure S (p_move rfl) rfl rfl rfl ?_; clear S a; intro a S
        refine l_pure S (p_indexAddr rfl rfl (fun w => ia_slice Tryd.underlying55 sz5 (by omega) (by omega))) rfl rfl rfl ?_; clear S a; intro a S
        obtain ⟨vb, hvb⟩ : ∃ vb, v2[n1]? = some vb := ⟨_, get_some 0 (show n1 < v2.length by omega)⟩
        refine l_read S H (r_load (v := .int .u8 vb) rfl (List.mem_cons_of_mem _ List.mem_cons_self) (by rw [Int.toNat_natCast, Nat.mul_one, show offAt 0 4096 r2 = r2 by unfold offAt; rw [if_neg (by omega), Nat.zero_add]]; exact hr2 _ _ hvb) (fun w hc => ld1 ag5 hc)) rfl rfl rfl ?_; clear S a; intro a S
        refine l_pure S (p_conv rfl (fun w => cv_int Tryd.underlying5 Tryd.underlying3 rfl)) rfl rfl rfl ?_; clear S a; intro a S
        refine l_pure S (p_nilCheck rfl) rfl rfl rfl ?_; clear S a; intro a S
        refine l_pure S (p_fieldAddr rfl (fun w => fa153_5 w _ _)) rfl rfl rfl ?_; clear S a; intro a S
        refine l_store S H rfl rfl rfl .here (by first | decide | simp [Value.cells]) (fun w u hc hz => st1 sz3 rfl hc hz) rfl rfl ?_; clear S a H; intro w a H S
        refine l_nil ?_
        refine e_then ?_
        refine c_region ?_
        refine l_pure S (p_move rfl) rfl rfl rfl ?_; clear S a; intro a S
        refine l_pure S (p_nilCheck rfl) rfl rfl rfl ?_; clear S a; intro a S
        refine l_pure S (p_fieldAddr rfl (fun w => fa153_6 w _ _)) rfl rfl rfl ?_; clear S a; intro a S
        refine l_store S H rfl rfl rfl .here (by first | decide | simp [Value.cells]) (fun w u hc hz => st1 sz3 rfl hc hz) rfl rfl ?_; clear S a H; intro w a H S
        refine l_nil ?_
        refine e_then ?_
        refine wp_ret ?_
        have hs2 : s2.size = 0 := hm2
        have hv2 : v2 = vis ++ ints s := by rw [← hY, show ints s2 = [] from rp.ints_nil.2 hs2, List.append_nil]
        exact r_ret2 S rfl rfl rfl ⟨c2, a2, (IntKind.i64.wrap vb), (-1), s2, hc2, by omega, hs2, .inl ⟨by rw [← hv2]; exact rp.fi_none.2 (rp.no_more hfi hno), _, rfl, r2 + v2.length, hw2, H⟩⟩
      · skip
        have c16 := bc16
        have c16 := of_decide_eq_false c16
        refine wp_skip ?_
        refine e_then ?_
        refine wp_ret ?_
        have hs2 : s2.size = 0 := hm2
        have hv2 : v2 = vis ++ ints s := by rw [← hY, show ints s2 = [] from rp.ints_nil.2 hs2, List.append_nil]
        exact r_ret2 S rfl rfl rfl ⟨c2, a2, lb, lr, s2, hc2, by omega, hs2, .inl ⟨by rw [← hv2]; exact rp.fi_none.2 (rp.no_more hfi hno), _, rfl, r2 + v2.length, hw2, H⟩⟩
    · skip
      have hi := rp.fi_some.1 hfi
      rw [List.length_drop] at hi
      exfalso; omega
end ra
end Go.Proofs.YtnmelglnkefjfaaDoor.rr
