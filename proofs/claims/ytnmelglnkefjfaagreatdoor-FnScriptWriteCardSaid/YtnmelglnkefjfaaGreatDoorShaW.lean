/- SHA-1: the package's feeding, walked. -/
import Derived.Test.YtnmelglnkefjfaaGreatDoorShaI
namespace Go.Proofs.YtnmelglnkefjfaaGreatDoor.sha
open Go.RowKit Go.Proofs.HHW Go.Proofs.YtnmelglnkefjfaaGreatDoorW.PrintWords
set_option linter.unusedVariables false
set_option linter.unusedSimpArgs false
namespace wr
theorem empty_or {r : List Int} {p : Prop} (h : r = [] ∨ p) (hp : 0 < r.length) : p := by
  rcases h with h | h
  · rw [h] at hp; simp at hp
  · exact h
theorem ag3 : aggB Tryz.prog 3 = some false := by kernel_rfl
theorem ag53 : aggB Tryz.prog 53 = some false := by kernel_rfl
theorem fa168_1 (w : World) (g o : Nat) : (Instr.fieldAt 168 (.pointer (some ⟨g, o, none⟩)) 1).run Tryz.prog w = .ok (.pointer (some ⟨g, o + 5, none⟩)) w := by kernel_rfl
theorem fa168_2 (w : World) (g o : Nat) : (Instr.fieldAt 168 (.pointer (some ⟨g, o, none⟩)) 2).run Tryz.prog w = .ok (.pointer (some ⟨g, o + 69, none⟩)) w := by kernel_rfl
theorem fa168_3 (w : World) (g o : Nat) : (Instr.fieldAt 168 (.pointer (some ⟨g, o, none⟩)) 3).run Tryz.prog w = .ok (.pointer (some ⟨g, o + 70, none⟩)) w := by kernel_rfl
theorem sz3 : szB Tryz.prog 3 = some 1 := by kernel_rfl
theorem sz5 : szB Tryz.prog 5 = some 1 := by kernel_rfl
theorem sz53 : szB Tryz.prog 53 = some 1 := by kernel_rfl
theorem blockF (B : Nat) (wb w0 : World) (L0 : List (Nat × Obj)) (g : Nat) (s : St) (x : List Int) (nx ln : Nat) (hx : x.length = 64) (gp op n c : Nat) (l : List Int) (hn : l.length = n) (hby : ∀ y ∈ l, 0 ≤ y ∧ y ≤ 255) (H : HH B wb w0 ((g, .cells (dg s x nx ln).toArray 168 (0, 0)) :: L0)) (hr : RB w0 gp op l) (hc : l.length ≤ c) (hs : l.length ≤ 1000000) : Calls Tryz.prog 77 #[.pointer (some ⟨g, 0, none⟩), .slice (some ⟨gp, op, none⟩) n c] w0 fun e w' => e = .returned (.tuple #[]) ∧ HH B wb w' ((g, .cells (dg (blks s l) x nx ln).toArray 168 (0, 0)) :: L0) := by
  refine c_enter (args := [.pointer (some ⟨g, 0, none⟩), .slice (some ⟨gp, op, none⟩) n c]) (k := 5) Tryz.func77 rfl rfl rfl (fun a S => ?_)
  refine c_region ?_
  refine l_pure S (p_move rfl) rfl rfl rfl ?_; clear S a; intro a S
  refine l_pure S (p_move rfl) rfl rfl rfl ?_; clear S a; intro a S
  refine l_call S rfl rfl Tryz.func99 rfl rfl (im.blockG B wb w0 L0 g s x nx ln hx gp op n c l hn hby H hr hc hs) rfl rfl rfl ?_
  rintro e w ⟨rfl, hH⟩
  refine ⟨_, rfl, ?_⟩; clear S a; intro a S
  clear H; have H := hH
  refine l_nil ?_
  exact r_end0 S rfl ⟨rfl, H⟩
set_option maxHeartbeats 2000000 in
theorem write_calls (B : Nat) (wb w0 : World) (L0 : List (Nat × Obj)) (g : Nat) (D x : List Int) (ok : OkX D x) (gp op c : Nat) (l : List Int) (csp : Array Value) (ep : TypeId) (fp : Nat × Nat) (hby : ∀ y ∈ l, 0 ≤ y ∧ y ≤ 255) (H : HH B wb w0 ((g, .cells (dgD D x).toArray 168 (0, 0)) :: L0)) (hm : (gp, Obj.cells csp ep fp) ∈ L0) (hrow : ∀ (i : Nat) (v : Int), l[i]? = some v → csp[op + i]? = some (Value.int .u8 v)) (hc : l.length ≤ c) (hs : D.length + l.length ≤ 1000000) : Calls Tryz.prog 64 #[.pointer (some ⟨g, 0, none⟩), .slice (some ⟨gp, op, none⟩) l.length c] w0 fun e w' => e = .returned (.tuple #[.int .i64 (l.length : Int), .nilIface]) ∧ ∃ x', OkX (D ++ l) x' ∧ HH B wb w' ((g, .cells (dgD (D ++ l) x').toArray 168 (0, 0)) :: L0) := by
  unfold dgD at H
  have hx := ok.1
  refine c_enter (args := [.pointer (some ⟨g, 0, none⟩), .slice (some ⟨gp, op, none⟩) l.length c]) (k := 83) Tryz.func64 rfl rfl rfl (fun a S => ?_)
  refine wp_seq ?_
  refine c_region ?_
  refine l_pure S (p_assign rfl) rfl rfl rfl ?_; clear S a; intro a S
  refine l_pure S (p_assign rfl) rfl rfl rfl ?_; clear S a; intro a S
  refine l_nil ?_
  refine e_then ?_
  refine wp_seq ?_
  refine c_region ?_
  refine l_pure S (p_move rfl) rfl rfl rfl ?_; clear S a; intro a S
  refine l_pure S (p_len Tryz.underlying39 rfl) rfl rfl rfl ?_; clear S a; intro a S
  refine l_pure S (p_assign rfl) rfl rfl rfl ?_; clear S a; intro a S
  refine l_nil ?_
  refine e_then ?_
  refine wp_seq ?_
  refine c_region ?_
  refine l_pure S (p_move rfl) rfl rfl rfl ?_; clear S a; intro a S
  refine l_pure S (p_nilCheck rfl) rfl rfl rfl ?_; clear S a; intro a S
  refine l_pure S (p_fieldAddr rfl (fun w => fa168_3 w _ _)) rfl rfl rfl ?_; clear S a; intro a S
  refine l_read S H (r_load rfl List.mem_cons_self (dg_ln hx) (fun w hc => ld1 ag53 hc)) rfl rfl rfl ?_; clear S a; intro a S
  refine l_pure S (p_move rfl) rfl rfl rfl ?_; clear S a; intro a S
  refine l_pure S (p_conv rfl (fun w => cv_int (Tryz.underlying3) (Tryz.underlying53) (nat_toU (x := l.length) (by omega)))) rfl rfl rfl ?_; clear S a; intro a S
  refine l_pure S (p_add rfl rfl (nat_addU (x := D.length) (y := l.length) (by omega))) rfl rfl rfl ?_; clear S a; intro a S
  refine l_pure S (p_nilCheck rfl) rfl rfl rfl ?_; clear S a; intro a S
  refine l_pure S (p_fieldAddr rfl (fun w => fa168_3 w _ _)) rfl rfl rfl ?_; clear S a; intro a S
  refine l_store S H rfl rfl rfl (Upd.cast (dg_set_ln (s := (blks init D)) (x := x) (nx := (D.length % 64)) (ln := D.length) hx (D.length + l.length)) .here) (by rw [show (dg (blks init D) x (D.length % 64) D.length).toArray.size = 71 from dg_len hx]; decide) (fun w u hc hz => st1 sz53 rfl hc hz) rfl rfl ?_; clear S a H; intro w a H S
  refine l_nil ?_
  refine e_then ?_
  refine c_cut (fun a w => ∃ D1 : List Int, ∃ r : List Int, ∃ x1 : List Int, ∃ o1 : Nat, ∃ c1 : Nat, SL a 85 [] [(0, .pointer (some ⟨g, 0, none⟩)), (1, .slice (some ⟨gp, o1, none⟩) r.length c1), (4, .int .i64 (l.length : Int)), (5, .nilIface)] ∧ HH (B) wb w ((g, .cells (dg (blks init D1) x1 (D1.length % 64) (D.length + l.length)).toArray 168 (0, 0)) :: L0) ∧ D1 ++ r = D ++ l ∧ OkX D1 x1 ∧ (r = [] ∨ D1.length % 64 = 0) ∧ r.length ≤ c1 ∧ (∀ (i : Nat) (v : Int), r[i]? = some v → csp[o1 + i]? = some (Value.int .u8 v)) ∧ r.length ≤ l.length ∧ (∀ y ∈ r, 0 ≤ y ∧ y ≤ 255)) ?_ ?_
  · clear S a H; rintro a w ⟨D1, r, x1, o1, c1, S, H, hinv⟩
    obtain ⟨hdr, ok1, hrd, hrc, hrow1, hrl, hby1⟩ := hinv
    refine c_cut (fun a w => ∃ D2 : List Int, ∃ r2 : List Int, ∃ x2 : List Int, ∃ o2 : Nat, ∃ c2 : Nat, SL a 85 [] [(0, .pointer (some ⟨g, 0, none⟩)), (1, .slice (some ⟨gp, o2, none⟩) r2.length c2), (4, .int .i64 (l.length : Int)), (5, .nilIface)] ∧ HH (B) wb w ((g, .cells (dg (blks init D2) x2 (D2.length % 64) (D.length + l.length)).toArray 168 (0, 0)) :: L0) ∧ D2 ++ r2 = D ++ l ∧ OkX D2 x2 ∧ (r2 = [] ∨ D2.length % 64 = 0) ∧ r2.length ≤ c2 ∧ (∀ (i : Nat) (v : Int), r2[i]? = some v → csp[o2 + i]? = some (Value.int .u8 v)) ∧ r2.length ≤ l.length ∧ (∀ y ∈ r2, 0 ≤ y ∧ y ≤ 255) ∧ r2.length < 64) ?_ ?_
    · clear S a H; rintro a w ⟨D2, r2, x2, o2, c2, S, H, hinv⟩
      obtain ⟨hdr2, ok2, hrd2, hrc2, hrow2, hrl2, hby2, hr64⟩ := hinv
      have hx := ok2.1
      refine wp_seq ?_
      refine wp_seq ?_
      refine c_region ?_
      refine l_pure S (p_move rfl) rfl rfl rfl ?_; clear S a; intro a S
      refine l_pure S (p_len Tryz.underlying39 rfl) rfl rfl rfl ?_; clear S a; intro a S
      refine l_pure S (p_gtr rfl rfl) rfl rfl rfl ?_; clear S a; intro a S
      refine l_nil ?_
      refine e_then ?_
      refine c_cond S rfl (fun c2 => ?_) (fun c2 => ?_)
      · skip
        have c2 := of_decide_eq_true c2
        refine c_region ?_
        refine l_pure S (p_move rfl) rfl rfl rfl ?_; clear S a; intro a S
        refine l_pure S (p_move rfl) rfl rfl rfl ?_; clear S a; intro a S
        refine l_pure S (p_nilCheck rfl) rfl rfl rfl ?_; clear S a; intro a S
        refine l_pure S (p_fieldAddr rfl (fun w => fa168_1 w _ _)) rfl rfl rfl ?_; clear S a; intro a S
        refine l_pure S (p_slice rfl (fun _ _ => o_none) (fun _ _ => o_none) (fun _ _ => o_none) (fun w => sl_arr_all Tryz.underlying166 sz5 (by decide))) rfl rfl rfl ?_; clear S a; intro a S
        refine l_pure S (p_move rfl) rfl rfl rfl ?_; clear S a; intro a S
        have hr0 := empty_or hrd2 (by omega)
        refine l_copy (k := r2.length) S H rfl rfl rfl Tryz.underlying39 sz5 (RB.first (RB.ofO H (List.mem_cons_of_mem _ hm) hrow2)) (by rw [show (dg (blks init D2) x2 (D2.length % 64) (D.length + l.length)).toArray.size = 71 from dg_len ok2.1]; decide) (Nat.min_eq_left (by omega)) (Rep.cast (dg_spl_take (o := 0) (k := r2.length) ok2.1 (Nat.le_refl _) (by omega)) .here) rfl rfl rfl ?_; clear S a H; intro w a H S
        rw [List.take_of_length_le (Nat.le_refl _)] at H
        have hx : (splx x2 0 r2).length = 64 := by rw [splx_len (by rw [ok2.1]; omega), ok2.1]
        refine l_pure S (p_nilCheck rfl) rfl rfl rfl ?_; clear S a; intro a S
        refine l_pure S (p_fieldAddr rfl (fun w => fa168_2 w _ _)) rfl rfl rfl ?_; clear S a; intro a S
        refine l_store S H rfl rfl rfl (Upd.cast (dg_set_nx (s := (blks init D2)) (x := (splx x2 0 r2)) (nx := (D2.length % 64)) (ln := (D.length + l.length)) hx r2.length) .here) (by rw [show (dg (blks init D2) (splx x2 0 r2) (D2.length % 64) (D.length + l.length)).toArray.size = 71 from dg_len hx]; decide) (fun w u hc hz => st1 sz3 rfl hc hz) rfl rfl ?_; clear S a H; intro w a H S
        refine l_nil ?_
        refine e_then ?_
        refine wp_ret ?_
        obtain ⟨f1, f2, f3⟩ := feed_short ok2 (l := r2) hby2 (by omega)
        rw [hr0] at f1
        have hD : dgD (D ++ l) (splx x2 0 r2) = dg (blks init D2) (splx x2 0 r2) r2.length (D.length + l.length) := by unfold dgD; rw [← hdr2, f2, f3, hr0, hdr2, List.length_append, Nat.zero_add]
        refine r_ret2 S rfl rfl rfl ⟨rfl, splx x2 0 r2, by rw [← hdr2]; exact f1, ?_⟩
        rw [hD]; exact H
      · skip
        have c2 := of_decide_eq_false c2
        refine wp_skip ?_
        refine e_then ?_
        refine wp_ret ?_
        have hr2 : r2 = [] := List.length_eq_zero_iff.1 (by omega)
        rw [hr2, List.append_nil] at hdr2
        subst hdr2
        have hD : dgD (D ++ l) x2 = dg (blks init (D ++ l)) x2 ((D ++ l).length % 64) (D.length + l.length) := by unfold dgD; rw [List.length_append]
        refine r_ret2 S rfl rfl rfl ⟨rfl, x2, ok2, ?_⟩
        rw [hD]; exact H
    · skip
      refine wp_seq ?_
      refine c_region ?_
      refine l_pure S (p_move rfl) rfl rfl rfl ?_; clear S a; intro a S
      refine l_pure S (p_len Tryz.underlying39 rfl) rfl rfl rfl ?_; clear S a; intro a S
      refine l_pure S (p_geq rfl rfl) rfl rfl rfl ?_; clear S a; intro a S
      refine l_nil ?_
      refine e_then ?_
      refine c_cond S rfl (fun c4 => ?_) (fun c4 => ?_)
      · skip
        have c4 := of_decide_eq_true c4
        refine wp_seq ?_
        refine c_region ?_
        refine l_pure S (p_move rfl) rfl rfl rfl ?_; clear S a; intro a S
        refine l_pure S (p_len Tryz.underlying39 rfl) rfl rfl rfl ?_; clear S a; intro a S
        refine l_pure S (p_andnot rfl rfl (nat_clear 6 (by decide) (x := r.length) (by omega) rfl)) rfl rfl rfl ?_; clear S a; intro a S
        refine l_pure S (p_assign rfl) rfl rfl rfl ?_; clear S a; intro a S
        refine l_nil ?_
        refine e_then ?_
        refine wp_seq ?_
        refine c_region ?_
        refine l_pure S (p_move rfl) rfl rfl rfl ?_; clear S a; intro a S
        refine l_pure S (p_move rfl) rfl rfl rfl ?_; clear S a; intro a S
        refine l_pure S (p_move rfl) rfl rfl rfl ?_; clear S a; intro a S
        refine l_pure S (p_slice rfl (fun _ _ => o_none) (o_some rfl) (fun _ _ => o_none) (fun w => sl_hi (m := (r.length - r.length % 64)) Tryz.underlying39 sz5 rfl (by omega))) rfl rfl rfl ?_; clear S a; intro a S
        have hcon := blockF B wb w L0 g (blks init D1) x1 (D1.length % 64) (D.length + l.length) ok1.1 gp o1 (r.length - r.length % 64) c1 (r.take (r.length - r.length % 64)) (by rw [List.length_take]; omega) (fun y hy => hby1 y (List.mem_of_mem_take hy)) H ((RB.ofO H (List.mem_cons_of_mem _ hm) hrow1).take _) (by rw [List.length_take]; omega) (by rw [List.length_take]; omega)
        refine l_call S rfl rfl Tryz.func77 rfl rfl (hcon) rfl rfl rfl ?_
        rintro e w ⟨rfl, hH⟩
        refine ⟨_, rfl, ?_⟩; clear S a; intro a S
        clear H; have H := hH; clear hH hcon
        refine l_nil ?_
        refine e_then ?_
        refine c_region ?_
        refine l_pure S (p_move rfl) rfl rfl rfl ?_; clear S a; intro a S
        refine l_pure S (p_move rfl) rfl rfl rfl ?_; clear S a; intro a S
        refine l_pure S (p_slice rfl (o_some rfl) (fun _ _ => o_none) (fun _ _ => o_none) (fun w => sl_byte_lo (m := (r.length - r.length % 64)) (l := r) Tryz.underlying39 sz5 rfl (by omega))) rfl rfl rfl ?_; clear S a; intro a S
        refine l_pure S (p_assign rfl) rfl rfl rfl ?_; clear S a; intro a S
        refine l_nil ?_
        refine e_then ?_
        have hr0 := empty_or hrd (by omega)
        have hr1 : (r.take (r.length - r.length % 64)).length = (r.length - r.length % 64) := by rw [List.length_take]; omega
        obtain ⟨f1, f2, f3⟩ := feed_blocks ok1 (l := r.take (r.length - r.length % 64)) hr0 (by rw [hr1]; omega)
        rw [← f1, show dg (blks init (D1 ++ r.take (r.length - r.length % 64))) x1 (D1.length % 64) (D.length + l.length) = dg (blks init (D1 ++ r.take (r.length - r.length % 64))) x1 ((D1 ++ r.take (r.length - r.length % 64)).length % 64) (D.length + l.length) by rw [f2, hr0]] at H
        exact ⟨D1 ++ r.take (r.length - r.length % 64), r.drop (r.length - r.length % 64), x1, offAt o1 c1 (r.length - r.length % 64), c1 - (r.length - r.length % 64), S.only ⟨rfl, rfl, rfl, rfl, trivial⟩, H, ⟨by rw [List.append_assoc, List.take_append_drop]; exact hdr, f3, .inr f2, by rw [List.length_drop]; omega, cut_row hrow1 (r.length - r.length % 64) hrc, by rw [List.length_drop]; omega, fun y hy => hby1 y (List.mem_of_mem_drop hy), by rw [List.length_drop]; omega⟩⟩
      · skip
        have c4 := of_decide_eq_false c4
        refine wp_skip ?_
        refine e_then ?_
        exact ⟨D1, r, x1, o1, c1, S.only ⟨rfl, rfl, rfl, rfl, trivial⟩, H, ⟨hdr, ok1, hrd, hrc, hrow1, hrl, hby1, by omega⟩⟩
  · skip
    refine wp_seq ?_
    refine c_region ?_
    refine l_pure S (p_move rfl) rfl rfl rfl ?_; clear S a; intro a S
    refine l_pure S (p_nilCheck rfl) rfl rfl rfl ?_; clear S a; intro a S
    refine l_pure S (p_fieldAddr rfl (fun w => fa168_2 w _ _)) rfl rfl rfl ?_; clear S a; intro a S
    refine l_read S H (r_load rfl List.mem_cons_self (dg_nx hx) (fun w hc => ld1 ag3 hc)) rfl rfl rfl ?_; clear S a; intro a S
    refine l_pure S (p_gtr rfl rfl) rfl rfl rfl ?_; clear S a; intro a S
    refine l_nil ?_
    refine e_then ?_
    refine c_cond S rfl (fun c6 => ?_) (fun c6 => ?_)
    · skip
      have c6 := of_decide_eq_true c6
      refine wp_seq ?_
      refine d_start (id := 4) [9] 11 #[false, false, false, false, false, false, false, false, false, false, false] H rfl rfl rfl (fun w H => ?_)
      refine d_pure (i := 0) #[true, false, false, false, false, false, false, false, false, false, false] S rfl (p_move rfl) (wanted_none rfl) rfl rfl (by kernel_rfl) (fun _ _ _ h => h) ?_; clear S a; intro a S
      refine d_pure (i := 1) #[true, true, false, false, false, false, false, false, false, false, false] S rfl (p_nilCheck rfl) (wanted_none rfl) rfl rfl (by kernel_rfl) (fun _ _ _ h => h) ?_; clear S a; intro a S
      refine d_pure (i := 2) #[true, true, true, false, false, false, false, false, false, false, false] S rfl (p_fieldAddr rfl (fun w => fa168_1 w _ _)) (wanted_none rfl) rfl rfl (by kernel_rfl) (fun _ _ _ h => h) ?_; clear S a; intro a S
      refine d_pure (i := 3) #[true, true, true, true, false, false, false, false, false, false, false] S rfl (p_move rfl) (wanted_none rfl) rfl rfl (by kernel_rfl) (fun _ _ _ h => h) ?_; clear S a; intro a S
      refine d_pure (i := 4) #[true, true, true, true, true, false, false, false, false, false, false] S rfl (p_nilCheck rfl) (wanted_none rfl) rfl rfl (by kernel_rfl) (fun _ _ _ h => h) ?_; clear S a; intro a S
      refine d_pure (i := 5) #[true, true, true, true, true, true, false, false, false, false, false] S rfl (p_fieldAddr rfl (fun w => fa168_2 w _ _)) (wanted_none rfl) rfl rfl (by kernel_rfl) (fun _ _ _ h => h) ?_; clear S a; intro a S
      refine d_read (i := 6) #[true, true, true, true, true, true, true, false, false, false, false] S H rfl (r_load rfl List.mem_cons_self (dg_nx hx) (fun w hc => ld1 ag3 hc)) (wanted_none rfl) rfl rfl (by kernel_rfl) (fun _ _ _ h => h) ?_; clear S a; intro a S
      refine d_pure (i := 7) #[true, true, true, true, true, true, true, true, false, false, false] S rfl (p_slice rfl (o_some rfl) (fun _ _ => o_none) (fun _ _ => o_none) (fun w => sl_arr_lo' (j' := 5 + D.length % 64) (n' := 64 - D.length % 64) Tryz.underlying166 sz5 (by omega) (by omega) (by rw [if_neg (by omega)]; omega) (by omega))) (wanted_none rfl) rfl rfl (by kernel_rfl) (fun _ _ _ h => h) ?_; clear S a; intro a S
      refine d_pure (i := 8) #[true, true, true, true, true, true, true, true, true, false, false] S rfl (p_move rfl) (wanted_none rfl) rfl rfl (by kernel_rfl) (fun _ _ _ h => h) ?_; clear S a; intro a S
      obtain ⟨kk, hkk⟩ : ∃ k, Nat.min l.length (64 - D.length % 64) = k := ⟨_, rfl⟩
      have hk1 : kk ≤ l.length := by rw [← hkk]; exact Nat.min_le_left _ _
      have hk2 : kk ≤ 64 - D.length % 64 := by rw [← hkk]; exact Nat.min_le_right _ _
      have hk3 : kk = l.length ∨ kk = 64 - D.length % 64 := by rw [← hkk]; show min _ _ = _ ∨ min _ _ = _; omega
      have htk : (l.take kk).length = kk := by rw [List.length_take]; omega
      refine d_copy (i := 9) #[true, true, true, true, true, true, true, true, true, true, false] S H rfl rfl rfl rfl Tryz.underlying39 sz5 (RB.first (RB.ofO H (List.mem_cons_of_mem _ hm) hrow)) (by rw [show (dg (blks init D) x (D.length % 64) (D.length + l.length)).toArray.size = 71 from dg_len ok.1]; omega) hkk (Rep.cast (dg_spl_take ok.1 hk1 (by omega)) .here) (wanted_none rfl) rfl rfl (by kernel_rfl) rfl ?_; clear S a H; intro w a H S
      have hx : (splx x (D.length % 64) (l.take kk)).length = 64 := by rw [splx_len (by rw [ok.1]; omega), ok.1]
      refine d_pure (i := 10) #[true, true, true, true, true, true, true, true, true, true, true] S rfl (p_assign rfl) (wanted_none rfl) rfl rfl (by kernel_rfl) (fun _ _ _ h => h) ?_; clear S a; intro a S
      refine d_done (by kernel_rfl) ?_
      refine e_then ?_
      refine wp_seq ?_
      refine c_region ?_
      refine l_pure S (p_move rfl) rfl rfl rfl ?_; clear S a; intro a S
      refine l_pure S (p_nilCheck rfl) rfl rfl rfl ?_; clear S a; intro a S
      refine l_pure S (p_fieldAddr rfl (fun w => fa168_2 w _ _)) rfl rfl rfl ?_; clear S a; intro a S
      refine l_read S H (r_load rfl List.mem_cons_self (dg_nx hx) (fun w hc => ld1 ag3 hc)) rfl rfl rfl ?_; clear S a; intro a S
      refine l_pure S (p_move rfl) rfl rfl rfl ?_; clear S a; intro a S
      refine l_pure S (p_add rfl rfl (nat_add (x := (D.length % 64)) (y := kk) (by omega))) rfl rfl rfl ?_; clear S a; intro a S
      refine l_pure S (p_nilCheck rfl) rfl rfl rfl ?_; clear S a; intro a S
      refine l_pure S (p_fieldAddr rfl (fun w => fa168_2 w _ _)) rfl rfl rfl ?_; clear S a; intro a S
      refine l_store S H rfl rfl rfl (Upd.cast (dg_set_nx (s := (blks init D)) (x := (splx x (D.length % 64) (l.take kk))) (nx := (D.length % 64)) (ln := (D.length + l.length)) hx ((D.length % 64) + kk)) .here) (by rw [show (dg (blks init D) (splx x (D.length % 64) (l.take kk)) (D.length % 64) (D.length + l.length)).toArray.size = 71 from dg_len hx]; decide) (fun w u hc hz => st1 sz3 rfl hc hz) rfl rfl ?_; clear S a H; intro w a H S
      refine l_nil ?_
      refine e_then ?_
      refine wp_seq ?_
      refine wp_seq ?_
      refine c_region ?_
      refine l_pure S (p_move rfl) rfl rfl rfl ?_; clear S a; intro a S
      refine l_pure S (p_nilCheck rfl) rfl rfl rfl ?_; clear S a; intro a S
      refine l_pure S (p_fieldAddr rfl (fun w => fa168_2 w _ _)) rfl rfl rfl ?_; clear S a; intro a S
      refine l_read S H (r_load rfl List.mem_cons_self (dg_nx hx) (fun w hc => ld1 ag3 hc)) rfl rfl rfl ?_; clear S a; intro a S
      refine l_pure S (p_eql rfl rfl) rfl rfl rfl ?_; clear S a; intro a S
      refine l_nil ?_
      refine e_then ?_
      refine c_cond S rfl (fun c8 => ?_) (fun c8 => ?_)
      · skip
        have c8 := eq_of_beq c8
        refine wp_seq ?_
        refine c_region ?_
        refine l_pure S (p_move rfl) rfl rfl rfl ?_; clear S a; intro a S
        refine l_pure S (p_move rfl) rfl rfl rfl ?_; clear S a; intro a S
        refine l_pure S (p_nilCheck rfl) rfl rfl rfl ?_; clear S a; intro a S
        refine l_pure S (p_fieldAddr rfl (fun w => fa168_1 w _ _)) rfl rfl rfl ?_; clear S a; intro a S
        refine l_pure S (p_slice rfl (fun _ _ => o_none) (fun _ _ => o_none) (fun _ _ => o_none) (fun w => sl_arr_all Tryz.underlying166 sz5 (by decide))) rfl rfl rfl ?_; clear S a; intro a S
        have hby1 : ∀ y ∈ (splx x (D.length % 64) (l.take kk)), 0 ≤ y ∧ y ≤ 255 := splx_range ok.2.2 (fun y hy => hby y (List.mem_of_mem_take hy))
        have hcon := blockF B wb w L0 g _ _ _ _ hx g (0 + 5) 64 64 (splx x (D.length % 64) (l.take kk)) hx hby1 H (RB.ofO H List.mem_cons_self (fun i v hi => by rw [Nat.zero_add]; exact dg_x hi)) (by omega) (by omega)
        refine l_call S rfl rfl Tryz.func77 rfl rfl (hcon) rfl rfl rfl ?_
        rintro e w ⟨rfl, hH⟩
        refine ⟨_, rfl, ?_⟩; clear S a; intro a S
        clear H; have H := hH; clear hH hcon
        refine l_nil ?_
        refine e_then ?_
        refine c_region ?_
        refine l_pure S (p_move rfl) rfl rfl rfl ?_; clear S a; intro a S
        refine l_pure S (p_nilCheck rfl) rfl rfl rfl ?_; clear S a; intro a S
        refine l_pure S (p_fieldAddr rfl (fun w => fa168_2 w _ _)) rfl rfl rfl ?_; clear S a; intro a S
        refine l_store S H rfl rfl rfl (Upd.cast (dg_set_nx (s := (blks (blks init D) (splx x (D.length % 64) (l.take kk)))) (x := (splx x (D.length % 64) (l.take kk))) (nx := ((D.length % 64) + kk)) (ln := (D.length + l.length)) hx 0) .here) (by rw [show (dg (blks (blks init D) (splx x (D.length % 64) (l.take kk))) (splx x (D.length % 64) (l.take kk)) ((D.length % 64) + kk) (D.length + l.length)).toArray.size = 71 from dg_len hx]; decide) (fun w u hc hz => st1 sz3 rfl hc hz) rfl rfl ?_; clear S a H; intro w a H S
        refine l_nil ?_
        refine e_then ?_
        refine c_region ?_
        refine l_pure S (p_move rfl) rfl rfl rfl ?_; clear S a; intro a S
        refine l_pure S (p_move rfl) rfl rfl rfl ?_; clear S a; intro a S
        refine l_pure S (p_slice rfl (o_some rfl) (fun _ _ => o_none) (fun _ _ => o_none) (fun w => sl_byte_lo (m := kk) (l := l) Tryz.underlying39 sz5 rfl (by omega))) rfl rfl rfl ?_; clear S a; intro a S
        refine l_pure S (p_assign rfl) rfl rfl rfl ?_; clear S a; intro a S
        refine l_nil ?_
        refine e_then ?_
        obtain ⟨f1, f2, f3, f4⟩ := feed_full ok (l := l.take kk) (fun y hy => hby y (List.mem_of_mem_take hy)) (by rw [htk]; omega)
        rw [← f1, show dg (blks init (D ++ l.take kk)) (splx x (D.length % 64) (l.take kk)) 0 (D.length + l.length) = dg (blks init (D ++ l.take kk)) (splx x (D.length % 64) (l.take kk)) ((D ++ l.take kk).length % 64) (D.length + l.length) by rw [f2]] at H
        exact ⟨D ++ l.take kk, l.drop kk, (splx x (D.length % 64) (l.take kk)), offAt op c kk, c - kk, S.only ⟨rfl, rfl, rfl, rfl, trivial⟩, H, ⟨by rw [List.append_assoc, List.take_append_drop], f4, .inr f2, by rw [List.length_drop]; omega, cut_row hrow kk hc, by rw [List.length_drop]; omega, fun y hy => hby y (List.mem_of_mem_drop hy)⟩⟩
      · skip
        have c8 := ne_of_beq_false c8
        refine wp_skip ?_
        refine e_then ?_
        refine c_region ?_
        refine l_pure S (p_move rfl) rfl rfl rfl ?_; clear S a; intro a S
        refine l_pure S (p_move rfl) rfl rfl rfl ?_; clear S a; intro a S
        refine l_pure S (p_slice rfl (o_some rfl) (fun _ _ => o_none) (fun _ _ => o_none) (fun w => sl_byte_lo (m := kk) (l := l) Tryz.underlying39 sz5 rfl (by omega))) rfl rfl rfl ?_; clear S a; intro a S
        refine l_pure S (p_assign rfl) rfl rfl rfl ?_; clear S a; intro a S
        refine l_nil ?_
        refine e_then ?_
        obtain ⟨f1, f2, f3⟩ := feed_short ok (l := l.take kk) (fun y hy => hby y (List.mem_of_mem_take hy)) (by rw [htk]; omega)
        rw [htk] at f3
        rw [← f2, ← f3] at H
        exact ⟨D ++ l.take kk, l.drop kk, (splx x (D.length % 64) (l.take kk)), offAt op c kk, c - kk, S.only ⟨rfl, rfl, rfl, rfl, trivial⟩, H, ⟨by rw [List.append_assoc, List.take_append_drop], f1, .inl (List.drop_eq_nil_of_le (by omega)), by rw [List.length_drop]; omega, cut_row hrow kk hc, by rw [List.length_drop]; omega, fun y hy => hby y (List.mem_of_mem_drop hy)⟩⟩
    · skip
      have c6 := of_decide_eq_false c6
      refine wp_skip ?_
      refine e_then ?_
      exact ⟨D, l, x, op, c, S.only ⟨rfl, rfl, rfl, rfl, trivial⟩, H, ⟨rfl, ok, .inr (by omega), hc, hrow, Nat.le_refl _, hby⟩⟩
end wr
end Go.Proofs.YtnmelglnkefjfaaGreatDoor.sha
