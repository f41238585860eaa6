/- SHA-1: the package's padding and sum, walked. -/
import Derived.Test.YtnmelglnkefjfaaGreatDoorShaW
import Derived.Test.YtnmelglnkefjfaaGreatDoorShaS
namespace Go.Proofs.YtnmelglnkefjfaaGreatDoor.sha
open Go.RowKit Go.Proofs.HHW Go.Proofs.YtnmelglnkefjfaaGreatDoorW.PrintWords
set_option linter.unusedVariables false
set_option linter.unusedSimpArgs false
namespace ck
theorem ag105 : aggB Tryz.prog 105 = some false := by kernel_rfl
theorem ag132 : aggB Tryz.prog 132 = some true := by kernel_rfl
theorem ag3 : aggB Tryz.prog 3 = some false := by kernel_rfl
theorem ag5 : aggB Tryz.prog 5 = some false := by kernel_rfl
theorem ag53 : aggB Tryz.prog 53 = some false := by kernel_rfl
theorem fa168_0 (w : World) (g o : Nat) : (Instr.fieldAt 168 (.pointer (some ⟨g, o, none⟩)) 0).run Tryz.prog w = .ok (.pointer (some ⟨g, o + 0, none⟩)) w := by kernel_rfl
theorem fa168_2 (w : World) (g o : Nat) : (Instr.fieldAt 168 (.pointer (some ⟨g, o, none⟩)) 2).run Tryz.prog w = .ok (.pointer (some ⟨g, o + 69, none⟩)) w := by kernel_rfl
theorem fa168_3 (w : World) (g o : Nat) : (Instr.fieldAt 168 (.pointer (some ⟨g, o, none⟩)) 3).run Tryz.prog w = .ok (.pointer (some ⟨g, o + 70, none⟩)) w := by kernel_rfl
theorem sz105 : szB Tryz.prog 105 = some 1 := by kernel_rfl
theorem sz132 : szB Tryz.prog 132 = some 20 := by kernel_rfl
theorem sz5 : szB Tryz.prog 5 = some 1 := by kernel_rfl
theorem be8_snoc (cs : Array Value) (o : Nat) (v : BitVec 64) {i j : Nat} (hi : i < 8) (hj : j = o + i) : (spl cs o (((be8 v).take i).map (Value.int .u8))).setIfInBounds j (.int .u8 ((((v >>> (56 - (8 * i))).setWidth 8).toNat : Nat) : Int)) = spl cs o (((be8 v).take (i + 1)).map (Value.int .u8)) := by
  rw [spl_snoc (by rw [List.length_map, List.length_take, be8_len]; omega), be8_take v hi, List.map_append, show 8 * (7 - i) = 56 - 8 * i by omega]
  rfl
theorem put64 (B : Nat) (wb w0 : World) (L0 : List (Nat × Obj)) (gt o n c : Nat) (cs : Array Value) (tt : TypeId) (v : BitVec 64) (hn : 8 ≤ n) (ho : o + 8 ≤ cs.size) (H : HH B wb w0 ((gt, .cells cs tt (0, 0)) :: L0)) : Calls Tryz.prog 78 #[.slice (some ⟨gt, o, none⟩) n c, .int .u64 (v.toNat : Int)] w0 fun e w' => e = .returned (.tuple #[]) ∧ HH B wb w' ((gt, .cells (spl cs o ((be8 v).map (Value.int .u8))) tt (0, 0)) :: L0) := by
  obtain ⟨v7, h7⟩ : ∃ v, cs[o + 7]? = some v := ⟨_, Array.getElem?_eq_getElem (by omega)⟩
  refine c_enter (args := [.slice (some ⟨gt, o, none⟩) n c, .int .u64 (v.toNat : Int)]) (k := 19) Tryz.func78 rfl rfl rfl (fun a S => ?_)
  refine wp_seq ?_
  refine c_region ?_
  refine l_pure S (p_move rfl) rfl rfl rfl ?_; clear S a; intro a S
  refine l_pure S (p_indexAddr rfl rfl (fun w => ia_slice Tryz.underlying39 sz5 (by decide) (by omega))) rfl rfl rfl ?_; clear S a; intro a S
  refine l_read S H (r_load rfl List.mem_cons_self (show cs[o + (7 : Int).toNat * 1]? = some v7 from h7) (fun w hc => ld1 ag5 hc)) rfl rfl rfl ?_; clear S a; intro a S
  refine l_nil ?_
  refine e_then ?_
  refine wp_seq ?_
  refine c_region ?_
  refine l_pure S (p_assign rfl) rfl rfl rfl ?_; clear S a; intro a S
  refine l_nil ?_
  refine e_then ?_
  refine wp_block ?_
  refine c_loop (σ := Nat) (fun s_ a w => match s_ with | i => SL a 21 [] [(0, .slice (some ⟨gt, o, none⟩) n c), (1, .int .u64 (v.toNat : Int)), (4, .int .i64 (i : Int))] ∧ HH (B) wb w ((gt, .cells (spl cs o (((be8 v).take i).map (Value.int .u8))) tt (0, 0)) :: L0) ∧ (i ≤ 8)) (fun s_ => match s_ with | i => 8 - i) 0 ⟨S.only ⟨rfl, rfl, rfl, trivial⟩, H, Nat.zero_le _⟩ ?_
  clear S a H; rintro i a w ⟨S, H, hinv⟩
  refine wp_seq ?_
  refine wp_seq ?_
  refine c_region ?_
  refine l_pure S (p_move rfl) rfl rfl rfl ?_; clear S a; intro a S
  refine l_pure S (p_lss rfl rfl) rfl rfl rfl ?_; clear S a; intro a S
  refine l_nil ?_
  refine e_then ?_
  refine c_cond S rfl (fun c2 => ?_) (fun c2 => ?_)
  · skip
    have c2 := of_decide_eq_true c2
    refine wp_skip ?_
    refine e_then ?_
    refine wp_seq ?_
    refine wp_block ?_
    refine c_region ?_
    refine l_pure S (p_move rfl) rfl rfl rfl ?_; clear S a; intro a S
    refine l_pure S (p_move rfl) rfl rfl rfl ?_; clear S a; intro a S
    refine l_pure S (p_move rfl) rfl rfl rfl ?_; clear S a; intro a S
    refine l_pure S (p_move rfl) rfl rfl rfl ?_; clear S a; intro a S
    refine l_pure S (p_mul rfl rfl (nat_mul (x := 8) (y := i) (by omega))) rfl rfl rfl ?_; clear S a; intro a S
    refine l_pure S (p_sub rfl rfl (nat_sub (x := 56) (y := (8 * i)) (by omega) (by omega))) rfl rfl rfl ?_; clear S a; intro a S
    refine l_pure S (p_shr rfl rfl (by omega) (shr64 v (n := (56 - (8 * i))) rfl (by omega))) rfl rfl rfl ?_; clear S a; intro a S
    refine l_pure S (p_conv rfl (fun w => cv_int (Tryz.underlying53) (Tryz.underlying5) (w64to8 (v >>> ((56 - (8 * i))))))) rfl rfl rfl ?_; clear S a; intro a S
    refine l_pure S (p_indexAddr rfl rfl (fun w => ia_slice Tryz.underlying39 sz5 (by omega) (by omega))) rfl rfl rfl ?_; clear S a; intro a S
    refine l_store S H rfl rfl rfl (Upd.cast (be8_snoc cs o v (i := i) (by omega) (by omega)) .here) (by rw [spl_size]; omega) (fun w u hc hz => st1 sz5 rfl hc hz) rfl rfl ?_; clear S a H; intro w a H S
    refine l_nil ?_
    refine e_in 1 ?_
    refine e_then ?_
    refine c_region ?_
    refine l_pure S (p_move rfl) rfl rfl rfl ?_; clear S a; intro a S
    refine l_pure S (p_add rfl rfl (nat_add (x := i) (y := 1) (by omega))) rfl rfl rfl ?_; clear S a; intro a S
    refine l_pure S (p_assign rfl) rfl rfl rfl ?_; clear S a; intro a S
    refine l_nil ?_
    refine e_then ?_
    exact ⟨(i + 1), ⟨S.only ⟨rfl, rfl, rfl, trivial⟩, H, by omega⟩, by show 8 - (i + 1) < 8 - i; omega⟩
  · skip
    have c2 := of_decide_eq_false c2
    refine wp_exit ?_
    refine e_then_exit ?_
    refine e_then_exit ?_
    refine e_in_exit ?_
    obtain rfl : i = 8 := by omega
    rw [List.take_of_length_le (show (be8 v).length ≤ 8 by rw [be8_len]; exact Nat.le_refl _)] at H
    exact r_end0 S rfl ⟨rfl, H⟩
theorem put32 (B : Nat) (wb w0 : World) (L0 : List (Nat × Obj)) (gt o n c : Nat) (cs : Array Value) (tt : TypeId) (v : BitVec 32) (hn : 4 ≤ n) (ho : o + 4 ≤ cs.size) (H0 : HH B wb w0 ((gt, .cells cs tt (0, 0)) :: L0)) : Calls Tryz.prog 79 #[.slice (some ⟨gt, o, none⟩) n c, .int .u32 (v.toNat : Int)] w0 fun e w' => e = .returned (.tuple #[]) ∧ HH B wb w' ((gt, .cells (spl cs o ((by4 v).map (Value.int .u8))) tt (0, 0)) :: L0) := by
  obtain ⟨v3, h3⟩ : ∃ v, cs[o + 3]? = some v := ⟨_, Array.getElem?_eq_getElem (by omega)⟩
  have H : HH B wb w0 ((gt, .cells (spl cs o []) tt (0, 0)) :: L0) := H0
  refine c_enter (args := [.slice (some ⟨gt, o, none⟩) n c, .int .u32 (v.toNat : Int)]) (k := 24) Tryz.func79 rfl rfl rfl (fun a S => ?_)
  refine wp_seq ?_
  refine c_region ?_
  refine l_pure S (p_move rfl) rfl rfl rfl ?_; clear S a; intro a S
  refine l_pure S (p_indexAddr rfl rfl (fun w => ia_slice Tryz.underlying39 sz5 (by decide) (by omega))) rfl rfl rfl ?_; clear S a; intro a S
  refine l_read S H (r_load rfl List.mem_cons_self (show cs[o + (3 : Int).toNat * 1]? = some v3 from h3) (fun w hc => ld1 ag5 hc)) rfl rfl rfl ?_; clear S a; intro a S
  refine l_nil ?_
  refine e_then ?_
  refine wp_seq ?_
  refine c_region ?_
  refine l_pure S (p_move rfl) rfl rfl rfl ?_; clear S a; intro a S
  refine l_pure S (p_move rfl) rfl rfl rfl ?_; clear S a; intro a S
  refine l_pure S (p_shr rfl rfl (by decide) (shr32 v (n := 24) rfl (by decide))) rfl rfl rfl ?_; clear S a; intro a S
  refine l_pure S (p_conv rfl (fun w => cv_int (Tryz.underlying105) (Tryz.underlying5) (w32to8 (v >>> 24)))) rfl rfl rfl ?_; clear S a; intro a S
  refine l_pure S (p_indexAddr rfl rfl (fun w => ia_slice Tryz.underlying39 sz5 (by decide) (by omega))) rfl rfl rfl ?_; clear S a; intro a S
  refine l_store S H rfl rfl rfl (Upd.cast (show (spl cs o []).setIfInBounds (o + (0 : Int).toNat * 1) (Value.int .u8 ((((v >>> 24).setWidth 8).toNat : Nat) : Int)) = spl cs o [Value.int .u8 ((((v >>> 24).setWidth 8).toNat : Nat) : Int)] from spl_snoc (by simp)) .here) (by rw [spl_size]; omega) (fun w u hc hz => st1 sz5 rfl hc hz) rfl rfl ?_; clear S a H; intro w a H S
  refine l_nil ?_
  refine e_then ?_
  refine wp_seq ?_
  refine c_region ?_
  refine l_pure S (p_move rfl) rfl rfl rfl ?_; clear S a; intro a S
  refine l_pure S (p_move rfl) rfl rfl rfl ?_; clear S a; intro a S
  refine l_pure S (p_shr rfl rfl (by decide) (shr32 v (n := 16) rfl (by decide))) rfl rfl rfl ?_; clear S a; intro a S
  refine l_pure S (p_conv rfl (fun w => cv_int (Tryz.underlying105) (Tryz.underlying5) (w32to8 (v >>> 16)))) rfl rfl rfl ?_; clear S a; intro a S
  refine l_pure S (p_indexAddr rfl rfl (fun w => ia_slice Tryz.underlying39 sz5 (by decide) (by omega))) rfl rfl rfl ?_; clear S a; intro a S
  refine l_store S H rfl rfl rfl (Upd.cast (show (spl cs o [Value.int .u8 ((((v >>> 24).setWidth 8).toNat : Nat) : Int)]).setIfInBounds (o + (1 : Int).toNat * 1) (Value.int .u8 ((((v >>> 16).setWidth 8).toNat : Nat) : Int)) = spl cs o [Value.int .u8 ((((v >>> 24).setWidth 8).toNat : Nat) : Int), Value.int .u8 ((((v >>> 16).setWidth 8).toNat : Nat) : Int)] from spl_snoc (by simp)) .here) (by rw [spl_size]; omega) (fun w u hc hz => st1 sz5 rfl hc hz) rfl rfl ?_; clear S a H; intro w a H S
  refine l_nil ?_
  refine e_then ?_
  refine wp_seq ?_
  refine c_region ?_
  refine l_pure S (p_move rfl) rfl rfl rfl ?_; clear S a; intro a S
  refine l_pure S (p_move rfl) rfl rfl rfl ?_; clear S a; intro a S
  refine l_pure S (p_shr rfl rfl (by decide) (shr32 v (n := 8) rfl (by decide))) rfl rfl rfl ?_; clear S a; intro a S
  refine l_pure S (p_conv rfl (fun w => cv_int (Tryz.underlying105) (Tryz.underlying5) (w32to8 (v >>> 8)))) rfl rfl rfl ?_; clear S a; intro a S
  refine l_pure S (p_indexAddr rfl rfl (fun w => ia_slice Tryz.underlying39 sz5 (by decide) (by omega))) rfl rfl rfl ?_; clear S a; intro a S
  refine l_store S H rfl rfl rfl (Upd.cast (show (spl cs o [Value.int .u8 ((((v >>> 24).setWidth 8).toNat : Nat) : Int), Value.int .u8 ((((v >>> 16).setWidth 8).toNat : Nat) : Int)]).setIfInBounds (o + (2 : Int).toNat * 1) (Value.int .u8 ((((v >>> 8).setWidth 8).toNat : Nat) : Int)) = spl cs o [Value.int .u8 ((((v >>> 24).setWidth 8).toNat : Nat) : Int), Value.int .u8 ((((v >>> 16).setWidth 8).toNat : Nat) : Int), Value.int .u8 ((((v >>> 8).setWidth 8).toNat : Nat) : Int)] from spl_snoc (by simp)) .here) (by rw [spl_size]; omega) (fun w u hc hz => st1 sz5 rfl hc hz) rfl rfl ?_; clear S a H; intro w a H S
  refine l_nil ?_
  refine e_then ?_
  refine c_region ?_
  refine l_pure S (p_move rfl) rfl rfl rfl ?_; clear S a; intro a S
  refine l_pure S (p_move rfl) rfl rfl rfl ?_; clear S a; intro a S
  refine l_pure S (p_conv rfl (fun w => cv_int (Tryz.underlying105) (Tryz.underlying5) (w32to8 v))) rfl rfl rfl ?_; clear S a; intro a S
  refine l_pure S (p_indexAddr rfl rfl (fun w => ia_slice Tryz.underlying39 sz5 (by decide) (by omega))) rfl rfl rfl ?_; clear S a; intro a S
  refine l_store S H rfl rfl rfl (Upd.cast (show (spl cs o [Value.int .u8 ((((v >>> 24).setWidth 8).toNat : Nat) : Int), Value.int .u8 ((((v >>> 16).setWidth 8).toNat : Nat) : Int), Value.int .u8 ((((v >>> 8).setWidth 8).toNat : Nat) : Int)]).setIfInBounds (o + (3 : Int).toNat * 1) (Value.int .u8 (((v.setWidth 8).toNat : Nat) : Int)) = spl cs o [Value.int .u8 ((((v >>> 24).setWidth 8).toNat : Nat) : Int), Value.int .u8 ((((v >>> 16).setWidth 8).toNat : Nat) : Int), Value.int .u8 ((((v >>> 8).setWidth 8).toNat : Nat) : Int), Value.int .u8 (((v.setWidth 8).toNat : Nat) : Int)] from spl_snoc (by simp)) .here) (by rw [spl_size]; omega) (fun w u hc hz => st1 sz5 rfl hc hz) rfl rfl ?_; clear S a H; intro w a H S
  refine l_nil ?_
  exact r_end0 S rfl ⟨rfl, H⟩
def z20 : List Value := List.replicate 20 (.int .u8 0)
def z72 : List Value := List.replicate 72 (.int .u8 0)
theorem zv132 : zvB Tryz.prog 132 = some (.agg z20.toArray) := by kernel_rfl
theorem zv190 : zvB Tryz.prog 190 = some (.agg z72.toArray) := by kernel_rfl
theorem pad_cells (n t : Nat) (ht : t = zn n + 1) (h64 : zn n < 64) (N : BitVec 64) (hN : N = 8#64 * BitVec.ofNat 64 n) : ∀ (i : Nat) (v : Int), (padding n)[i]? = some v → (spl (spl z72.toArray 0 [Value.int .u8 128]) t ((be8 N).map (Value.int .u8)))[0 + i]? = some (Value.int .u8 v) := by
  intro i v hi
  subst hN
  rw [Nat.zero_add]
  have hl := be8_len (8#64 * BitVec.ofNat 64 n)
  have hz : z72.toArray.size = 72 := rfl
  unfold padding at hi
  by_cases h1 : i < t
  · rw [spl_out _ _ _ _ (.inl h1)]
    cases i with
    | zero => simp at hi; subst hi; rfl
    | succ i =>
      rw [spl_out _ _ _ _ (.inr (by simp))]
      rw [List.getElem?_cons_succ, List.getElem?_append_left (by rw [List.length_replicate]; omega), List.getElem?_replicate, if_pos (by omega)] at hi
      injection hi with hi
      subst hi
      unfold z72
      simp only [List.getElem?_toArray, List.getElem?_replicate]
      rw [if_pos (by omega)]
  · obtain ⟨i, rfl⟩ : ∃ k, i = k + 1 := ⟨i - 1, by omega⟩
    rw [List.getElem?_cons_succ, List.getElem?_append_right (by rw [List.length_replicate]; omega), List.length_replicate] at hi
    have hi' := (List.getElem?_eq_some_iff.1 hi).1
    have := spl_in ((be8 (8#64 * BitVec.ofNat 64 n)).map (Value.int .u8)) (spl z72.toArray 0 [Value.int .u8 128]) t (i + 1 - t) (by rw [spl_size, hz, List.length_map]; omega) (by rw [List.length_map]; omega)
    rw [show t + (i + 1 - t) = i + 1 by omega] at this
    rw [this, List.getElem?_map, show i + 1 - t = i - zn n by omega, hi]
    rfl
theorem out_cells (s : St) : spl (spl (spl (spl (spl z20.toArray 0 ((by4 s.a).map (Value.int .u8))) 4 ((by4 s.b).map (Value.int .u8))) 8 ((by4 s.c).map (Value.int .u8))) 12 ((by4 s.d).map (Value.int .u8))) 16 ((by4 s.e).map (Value.int .u8)) = ((outb s).map (Value.int .u8)).toArray := by
  simp [spl, z20, by4, outb, List.replicate]
theorem shl3 (n : Nat) : BitVec.ofNat 64 n <<< 3 = 8#64 * BitVec.ofNat 64 n := by
  rw [BitVec.shiftLeft_eq_mul_twoPow, BitVec.mul_comm]; rfl
theorem pad_range' (n : Nat) : ∀ y ∈ padding n, 0 ≤ y ∧ y ≤ 255 := by
  intro x hx
  unfold padding at hx
  simp only [List.mem_cons, List.mem_append, List.mem_replicate] at hx
  rcases hx with rfl | ⟨_, rfl⟩ | hx
  · omega
  · omega
  · unfold be8 at hx
    obtain ⟨i, _, rfl⟩ := List.mem_map.1 hx
    have := (((8#64 * BitVec.ofNat 64 n) >>> (56 - 8 * i)).setWidth 8).isLt
    omega
set_option maxHeartbeats 2000000 in
theorem check_calls (B : Nat) (wb w0 : World) (L0 : List (Nat × Obj)) (g : Nat) (D x : List Int) (ok : OkX D x) (hs : D.length ≤ 900000) (H : HH B wb w0 ((g, .cells (dgD D x).toArray 168 (0, 0)) :: L0)) : Calls Tryz.prog 65 #[.pointer (some ⟨g, 0, none⟩)] w0 fun e w' => e = .returned (.agg ((sum D).map (Value.int .u8)).toArray) ∧ ∃ cs', HH B wb w' ((g, .cells cs' 168 (0, 0)) :: L0) := by
  unfold dgD at H
  have hx := ok.1
  refine c_enter (args := [.pointer (some ⟨g, 0, none⟩)]) (k := 76) Tryz.func65 rfl rfl rfl (fun a S => ?_)
  refine wp_seq ?_
  refine c_region ?_
  refine l_alloc (cs := z20.toArray) S H rfl (fun w => al zv132) rfl rfl rfl ?_; clear S a H; intro g1 w a H S
  refine l_nil ?_
  refine e_then ?_
  refine wp_seq ?_
  refine c_region ?_
  refine l_pure S (p_move rfl) rfl rfl rfl ?_; clear S a; intro a S
  refine l_pure S (p_nilCheck rfl) rfl rfl rfl ?_; clear S a; intro a S
  refine l_pure S (p_fieldAddr rfl (fun w => fa168_3 w _ _)) rfl rfl rfl ?_; clear S a; intro a S
  refine l_read S H (r_load rfl (List.mem_cons_of_mem _ List.mem_cons_self) (dg_ln hx) (fun w hc => ld1 ag53 hc)) rfl rfl rfl ?_; clear S a; intro a S
  refine l_pure S (p_assign rfl) rfl rfl rfl ?_; clear S a; intro a S
  refine l_nil ?_
  refine e_then ?_
  refine wp_seq ?_
  refine c_region ?_
  refine l_alloc (cs := z72.toArray) S H rfl (fun w => al zv190) rfl rfl rfl ?_; clear S a H; intro g2 w a H S
  refine l_nil ?_
  refine e_then ?_
  refine wp_seq ?_
  refine c_region ?_
  refine l_pure S (p_indexAddr rfl rfl (fun w => ia_array Tryz.underlying190 sz5 (by decide) (by decide))) rfl rfl rfl ?_; clear S a; intro a S
  refine l_store S H rfl rfl rfl (Upd.cast (show z72.toArray.setIfInBounds _ _ = spl z72.toArray 0 [Value.int .u8 128] from rfl) .here) (by decide) (fun w u hc hz => st1 sz5 rfl hc hz) rfl rfl ?_; clear S a H; intro w a H S
  refine l_nil ?_
  refine e_then ?_
  refine wp_seq ?_
  refine c_region ?_
  refine l_pure S (p_assign rfl) rfl rfl rfl ?_; clear S a; intro a S
  refine l_nil ?_
  refine e_then ?_
  refine c_cut (fun a w => ∃ t : Nat, SL a 77 [] [(0, .pointer (some ⟨g, 0, none⟩)), (2, .pointer (some ⟨g1, 0, none⟩)), (3, .int .u64 (D.length : Int)), (4, .pointer (some ⟨g2, 0, none⟩)), (5, .int .u64 (t : Int))] ∧ HH (B) wb w ((g2, .cells (spl z72.toArray 0 [Value.int .u8 128]) 190 (0, 0)) :: (g1, .cells z20.toArray 132 (0, 0)) :: (g, .cells (dg (blks init D) x (D.length % 64) D.length).toArray 168 (0, 0)) :: L0) ∧ t = zn D.length + 1 ∧ zn D.length < 64) ?_ ?_
  · clear S a H; rintro a w ⟨t, S, H, hinv⟩
    obtain ⟨ht, hz64⟩ := hinv
    refine wp_seq ?_
    refine c_region ?_
    refine l_pure S (p_move rfl) rfl rfl rfl ?_; clear S a; intro a S
    rw [nat_bv (x := D.length) (by omega)] at S
    refine l_pure S (p_shl rfl rfl (by decide) (shl64 (BitVec.ofNat 64 D.length) (n := 3) rfl (by decide))) rfl rfl rfl ?_; clear S a; intro a S
    rw [shl3] at S
    refine l_pure S (p_assign rfl) rfl rfl rfl ?_; clear S a; intro a S
    refine l_nil ?_
    refine e_then ?_
    refine wp_seq ?_
    refine c_region ?_
    refine l_pure S (p_move rfl) rfl rfl rfl ?_; clear S a; intro a S
    refine l_pure S (p_add rfl rfl (nat_addU (x := t) (y := 8) (by omega))) rfl rfl rfl ?_; clear S a; intro a S
    refine l_pure S (p_slice rfl (fun _ _ => o_none) (o_some rfl) (fun _ _ => o_none) (fun w => sl_arr_hi Tryz.underlying190 sz5 (by omega) (by omega) (by decide))) rfl rfl rfl ?_; clear S a; intro a S
    rw [Int.toNat_natCast] at S
    refine l_pure S (p_assign rfl) rfl rfl rfl ?_; clear S a; intro a S
    refine l_nil ?_
    refine e_then ?_
    refine wp_seq ?_
    refine c_region ?_
    refine l_pure S (p_move rfl) rfl rfl rfl ?_; clear S a; intro a S
    refine l_pure S (p_move rfl) rfl rfl rfl ?_; clear S a; intro a S
    refine l_pure S (p_slice rfl (o_some rfl) (fun _ _ => o_none) (fun _ _ => o_none) (fun w => sl_slice_lo (k := .u64) (l := (t : Int)) Tryz.underlying39 sz5 (by omega) (by omega))) rfl rfl rfl ?_; clear S a; intro a S
    rw [Int.toNat_natCast, cutAt_off, show offAt 0 72 t = t from by unfold offAt; rw [if_neg (by omega), Nat.zero_add]] at S
    refine l_pure S (p_move rfl) rfl rfl rfl ?_; clear S a; intro a S
    have hcon := put64 B wb w _ g2 t (t + 8 - t) (72 - t) _ 190 (8#64 * BitVec.ofNat 64 D.length) (by omega) (by rw [spl_size]; show t + 8 ≤ 72; omega) H
    refine l_call S rfl rfl Tryz.func78 rfl rfl (hcon) rfl rfl rfl ?_
    rintro e w ⟨rfl, hH⟩
    refine ⟨_, rfl, ?_⟩; clear S a; intro a S
    clear H; have H := hH; clear hH hcon
    refine l_nil ?_
    refine e_then ?_
    refine wp_seq ?_
    refine c_region ?_
    refine l_pure S (p_move rfl) rfl rfl rfl ?_; clear S a; intro a S
    refine l_pure S (p_move rfl) rfl rfl rfl ?_; clear S a; intro a S
    have hpl : (padding D.length).length = t + 8 := by rw [padding_len]; omega
    rw [← hpl] at S
    replace H := H.pull2
    have hcon := wr.write_calls B wb w _ g D x ok g2 0 72 (padding D.length) _ 190 (0, 0) (pad_range' _) H List.mem_cons_self (pad_cells D.length t ht hz64 _ rfl) (by omega) (by omega)
    refine l_call S rfl rfl Tryz.func64 rfl rfl (hcon) rfl rfl rfl ?_
    rintro e w ⟨rfl, x', ok', hH⟩
    refine ⟨_, rfl, ?_⟩; clear S a; intro a S
    clear H; have H := hH; clear hH hcon
    have hp0 : (D ++ padding D.length).length % 64 = 0 := padded_len D
    have hx' := ok'.1
    unfold dgD at H
    refine l_nil ?_
    refine e_then ?_
    refine wp_seq ?_
    refine wp_seq ?_
    refine c_region ?_
    refine l_pure S (p_move rfl) rfl rfl rfl ?_; clear S a; intro a S
    refine l_pure S (p_nilCheck rfl) rfl rfl rfl ?_; clear S a; intro a S
    refine l_pure S (p_fieldAddr rfl (fun w => fa168_2 w _ _)) rfl rfl rfl ?_; clear S a; intro a S
    refine l_read S H (r_load rfl List.mem_cons_self (dg_nx hx') (fun w hc => ld1 ag3 hc)) rfl rfl rfl ?_; clear S a; intro a S
    refine l_pure S (p_neq rfl rfl) rfl rfl rfl ?_; clear S a; intro a S
    refine l_nil ?_
    refine e_then ?_
    refine c_cond S rfl (fun c4 => by have c4 := bne_iff_ne.1 c4; exfalso; omega) (fun c4 => ?_)
    have c4 := bne_eq_false_iff_eq.1 c4
    refine wp_skip ?_
    refine e_then ?_
    refine wp_seq ?_
    refine c_region ?_
    refine l_alloc (cs := z20.toArray) S H rfl (fun w => al zv132) rfl rfl rfl ?_; clear S a H; intro g5 w a H S
    refine l_nil ?_
    refine e_then ?_
    refine wp_seq ?_
    refine d_start (id := 15) [6] 7 #[false, false, false, false, false, false, false] H rfl rfl rfl (fun w H => ?_)
    refine d_pure (i := 0) #[true, false, false, false, false, false, false] S rfl (p_slice rfl (o_some rfl) (fun _ _ => o_none) (fun _ _ => o_none) (fun w => sl_arr_lo' (j' := 0) (n' := 20) Tryz.underlying132 sz5 (by decide) (by decide) (by decide) (by decide))) (wanted_none rfl) rfl rfl (by kernel_rfl) (fun _ _ _ h => h) ?_; clear S a; intro a S
    refine d_pure (i := 1) #[true, true, false, false, false, false, false] S rfl (p_move rfl) (wanted_none rfl) rfl rfl (by kernel_rfl) (fun _ _ _ h => h) ?_; clear S a; intro a S
    refine d_pure (i := 2) #[true, true, true, false, false, false, false] S rfl (p_nilCheck rfl) (wanted_none rfl) rfl rfl (by kernel_rfl) (fun _ _ _ h => h) ?_; clear S a; intro a S
    refine d_pure (i := 3) #[true, true, true, true, false, false, false] S rfl (p_fieldAddr rfl (fun w => fa168_0 w _ _)) (wanted_none rfl) rfl rfl (by kernel_rfl) (fun _ _ _ h => h) ?_; clear S a; intro a S
    refine d_pure (i := 4) #[true, true, true, true, true, false, false] S rfl (p_indexAddr rfl rfl (fun w => ia_array Tryz.underlying106 sz105 (by decide) (by decide))) (wanted_none rfl) rfl rfl (by kernel_rfl) (fun _ _ _ h => h) ?_; clear S a; intro a S
    refine d_read (i := 5) #[true, true, true, true, true, true, false] S H rfl (r_load rfl (List.mem_cons_of_mem _ List.mem_cons_self) (show _ = some (Value.int .u32 (((blks init (D ++ padding D.length))).a.toNat : Int)) from rfl) (fun w hc => ld1 ag105 hc)) (wanted_none rfl) rfl rfl (by kernel_rfl) (fun _ _ _ h => h) ?_; clear S a; intro a S
    have hcon := put32 B wb w _ g5 0 20 20 _ 132 ((blks init (D ++ padding D.length)).a) (by decide) (by first | decide | (simp only [spl_size]; decide)) H
    refine d_call_last (i := 6) #[true, true, true, true, true, true, true] S rfl rfl rfl Tryz.func79 rfl rfl hcon (wanted_none rfl) rfl rfl (by kernel_rfl) rfl ?_
    rintro e w ⟨rfl, hH⟩
    refine ⟨_, rfl, ?_⟩; clear H; have H := hH; clear hH hcon; clear S a; intro a S
    refine d_done (by kernel_rfl) ?_
    refine e_then ?_
    refine wp_seq ?_
    refine d_start (id := 16) [6] 7 #[false, false, false, false, false, false, false] H rfl rfl rfl (fun w H => ?_)
    refine d_pure (i := 0) #[true, false, false, false, false, false, false] S rfl (p_slice rfl (o_some rfl) (fun _ _ => o_none) (fun _ _ => o_none) (fun w => sl_arr_lo' (j' := 4) (n' := 16) Tryz.underlying132 sz5 (by decide) (by decide) (by decide) (by decide))) (wanted_none rfl) rfl rfl (by kernel_rfl) (fun _ _ _ h => h) ?_; clear S a; intro a S
    refine d_pure (i := 1) #[true, true, false, false, false, false, false] S rfl (p_move rfl) (wanted_none rfl) rfl rfl (by kernel_rfl) (fun _ _ _ h => h) ?_; clear S a; intro a S
    refine d_pure (i := 2) #[true, true, true, false, false, false, false] S rfl (p_nilCheck rfl) (wanted_none rfl) rfl rfl (by kernel_rfl) (fun _ _ _ h => h) ?_; clear S a; intro a S
    refine d_pure (i := 3) #[true, true, true, true, false, false, false] S rfl (p_fieldAddr rfl (fun w => fa168_0 w _ _)) (wanted_none rfl) rfl rfl (by kernel_rfl) (fun _ _ _ h => h) ?_; clear S a; intro a S
    refine d_pure (i := 4) #[true, true, true, true, true, false, false] S rfl (p_indexAddr rfl rfl (fun w => ia_array Tryz.underlying106 sz105 (by decide) (by decide))) (wanted_none rfl) rfl rfl (by kernel_rfl) (fun _ _ _ h => h) ?_; clear S a; intro a S
    refine d_read (i := 5) #[true, true, true, true, true, true, false] S H rfl (r_load rfl (List.mem_cons_of_mem _ List.mem_cons_self) (show _ = some (Value.int .u32 (((blks init (D ++ padding D.length))).b.toNat : Int)) from rfl) (fun w hc => ld1 ag105 hc)) (wanted_none rfl) rfl rfl (by kernel_rfl) (fun _ _ _ h => h) ?_; clear S a; intro a S
    have hcon := put32 B wb w _ g5 4 16 16 _ 132 ((blks init (D ++ padding D.length)).b) (by decide) (by first | decide | (simp only [spl_size]; decide)) H
    refine d_call_last (i := 6) #[true, true, true, true, true, true, true] S rfl rfl rfl Tryz.func79 rfl rfl hcon (wanted_none rfl) rfl rfl (by kernel_rfl) rfl ?_
    rintro e w ⟨rfl, hH⟩
    refine ⟨_, rfl, ?_⟩; clear H; have H := hH; clear hH hcon; clear S a; intro a S
    refine d_done (by kernel_rfl) ?_
    refine e_then ?_
    refine wp_seq ?_
    refine d_start (id := 17) [6] 7 #[false, false, false, false, false, false, false] H rfl rfl rfl (fun w H => ?_)
    refine d_pure (i := 0) #[true, false, false, false, false, false, false] S rfl (p_slice rfl (o_some rfl) (fun _ _ => o_none) (fun _ _ => o_none) (fun w => sl_arr_lo' (j' := 8) (n' := 12) Tryz.underlying132 sz5 (by decide) (by decide) (by decide) (by decide))) (wanted_none rfl) rfl rfl (by kernel_rfl) (fun _ _ _ h => h) ?_; clear S a; intro a S
    refine d_pure (i := 1) #[true, true, false, false, false, false, false] S rfl (p_move rfl) (wanted_none rfl) rfl rfl (by kernel_rfl) (fun _ _ _ h => h) ?_; clear S a; intro a S
    refine d_pure (i := 2) #[true, true, true, false, false, false, false] S rfl (p_nilCheck rfl) (wanted_none rfl) rfl rfl (by kernel_rfl) (fun _ _ _ h => h) ?_; clear S a; intro a S
    refine d_pure (i := 3) #[true, true, true, true, false, false, false] S rfl (p_fieldAddr rfl (fun w => fa168_0 w _ _)) (wanted_none rfl) rfl rfl (by kernel_rfl) (fun _ _ _ h => h) ?_; clear S a; intro a S
    refine d_pure (i := 4) #[true, true, true, true, true, false, false] S rfl (p_indexAddr rfl rfl (fun w => ia_array Tryz.underlying106 sz105 (by decide) (by decide))) (wanted_none rfl) rfl rfl (by kernel_rfl) (fun _ _ _ h => h) ?_; clear S a; intro a S
    refine d_read (i := 5) #[true, true, true, true, true, true, false] S H rfl (r_load rfl (List.mem_cons_of_mem _ List.mem_cons_self) (show _ = some (Value.int .u32 (((blks init (D ++ padding D.length))).c.toNat : Int)) from rfl) (fun w hc => ld1 ag105 hc)) (wanted_none rfl) rfl rfl (by kernel_rfl) (fun _ _ _ h => h) ?_; clear S a; intro a S
    have hcon := put32 B wb w _ g5 8 12 12 _ 132 ((blks init (D ++ padding D.length)).c) (by decide) (by first | decide | (simp only [spl_size]; decide)) H
    refine d_call_last (i := 6) #[true, true, true, true, true, true, true] S rfl rfl rfl Tryz.func79 rfl rfl hcon (wanted_none rfl) rfl rfl (by kernel_rfl) rfl ?_
    rintro e w ⟨rfl, hH⟩
    refine ⟨_, rfl, ?_⟩; clear H; have H := hH; clear hH hcon; clear S a; intro a S
    refine d_done (by kernel_rfl) ?_
    refine e_then ?_
    refine wp_seq ?_
    refine d_start (id := 18) [6] 7 #[false, false, false, false, false, false, false] H rfl rfl rfl (fun w H => ?_)
    refine d_pure (i := 0) #[true, false, false, false, false, false, false] S rfl (p_slice rfl (o_some rfl) (fun _ _ => o_none) (fun _ _ => o_none) (fun w => sl_arr_lo' (j' := 12) (n' := 8) Tryz.underlying132 sz5 (by decide) (by decide) (by decide) (by decide))) (wanted_none rfl) rfl rfl (by kernel_rfl) (fun _ _ _ h => h) ?_; clear S a; intro a S
    refine d_pure (i := 1) #[true, true, false, false, false, false, false] S rfl (p_move rfl) (wanted_none rfl) rfl rfl (by kernel_rfl) (fun _ _ _ h => h) ?_; clear S a; intro a S
    refine d_pure (i := 2) #[true, true, true, false, false, false, false] S rfl (p_nilCheck rfl) (wanted_none rfl) rfl rfl (by kernel_rfl) (fun _ _ _ h => h) ?_; clear S a; intro a S
    refine d_pure (i := 3) #[true, true, true, true, false, false, false] S rfl (p_fieldAddr rfl (fun w => fa168_0 w _ _)) (wanted_none rfl) rfl rfl (by kernel_rfl) (fun _ _ _ h => h) ?_; clear S a; intro a S
    refine d_pure (i := 4) #[true, true, true, true, true, false, false] S rfl (p_indexAddr rfl rfl (fun w => ia_array Tryz.underlying106 sz105 (by decide) (by decide))) (wanted_none rfl) rfl rfl (by kernel_rfl) (fun _ _ _ h => h) ?_; clear S a; intro a S
    refine d_read (i := 5) #[true, true, true, true, true, true, false] S H rfl (r_load rfl (List.mem_cons_of_mem _ List.mem_cons_self) (show _ = some (Value.int .u32 (((blks init (D ++ padding D.length))).d.toNat : Int)) from rfl) (fun w hc => ld1 ag105 hc)) (wanted_none rfl) rfl rfl (by kernel_rfl) (fun _ _ _ h => h) ?_; clear S a; intro a S
    have hcon := put32 B wb w _ g5 12 8 8 _ 132 ((blks init (D ++ padding D.length)).d) (by decide) (by first | decide | (simp only [spl_size]; decide)) H
    refine d_call_last (i := 6) #[true, true, true, true, true, true, true] S rfl rfl rfl Tryz.func79 rfl rfl hcon (wanted_none rfl) rfl rfl (by kernel_rfl) rfl ?_
    rintro e w ⟨rfl, hH⟩
    refine ⟨_, rfl, ?_⟩; clear H; have H := hH; clear hH hcon; clear S a; intro a S
    refine d_done (by kernel_rfl) ?_
    refine e_then ?_
    refine wp_seq ?_
    refine d_start (id := 19) [6] 7 #[false, false, false, false, false, false, false] H rfl rfl rfl (fun w H => ?_)
    refine d_pure (i := 0) #[true, false, false, false, false, false, false] S rfl (p_slice rfl (o_some rfl) (fun _ _ => o_none) (fun _ _ => o_none) (fun w => sl_arr_lo' (j' := 16) (n' := 4) Tryz.underlying132 sz5 (by decide) (by decide) (by decide) (by decide))) (wanted_none rfl) rfl rfl (by kernel_rfl) (fun _ _ _ h => h) ?_; clear S a; intro a S
    refine d_pure (i := 1) #[true, true, false, false, false, false, false] S rfl (p_move rfl) (wanted_none rfl) rfl rfl (by kernel_rfl) (fun _ _ _ h => h) ?_; clear S a; intro a S
    refine d_pure (i := 2) #[true, true, true, false, false, false, false] S rfl (p_nilCheck rfl) (wanted_none rfl) rfl rfl (by kernel_rfl) (fun _ _ _ h => h) ?_; clear S a; intro a S
    refine d_pure (i := 3) #[true, true, true, true, false, false, false] S rfl (p_fieldAddr rfl (fun w => fa168_0 w _ _)) (wanted_none rfl) rfl rfl (by kernel_rfl) (fun _ _ _ h => h) ?_; clear S a; intro a S
    refine d_pure (i := 4) #[true, true, true, true, true, false, false] S rfl (p_indexAddr rfl rfl (fun w => ia_array Tryz.underlying106 sz105 (by decide) (by decide))) (wanted_none rfl) rfl rfl (by kernel_rfl) (fun _ _ _ h => h) ?_; clear S a; intro a S
    refine d_read (i := 5) #[true, true, true, true, true, true, false] S H rfl (r_load rfl (List.mem_cons_of_mem _ List.mem_cons_self) (show _ = some (Value.int .u32 (((blks init (D ++ padding D.length))).e.toNat : Int)) from rfl) (fun w hc => ld1 ag105 hc)) (wanted_none rfl) rfl rfl (by kernel_rfl) (fun _ _ _ h => h) ?_; clear S a; intro a S
    have hcon := put32 B wb w _ g5 16 4 4 _ 132 ((blks init (D ++ padding D.length)).e) (by decide) (by first | decide | (simp only [spl_size]; decide)) H
    refine d_call_last (i := 6) #[true, true, true, true, true, true, true] S rfl rfl rfl Tryz.func79 rfl rfl hcon (wanted_none rfl) rfl rfl (by kernel_rfl) rfl ?_
    rintro e w ⟨rfl, hH⟩
    refine ⟨_, rfl, ?_⟩; clear H; have H := hH; clear hH hcon; clear S a; intro a S
    refine d_done (by kernel_rfl) ?_
    refine e_then ?_
    refine wp_seq ?_
    refine c_region ?_
    rw [out_cells] at H
    refine l_read S H (r_loadn (m := 20) (vs := (outb (blks init (D ++ padding D.length))).map (Value.int .u8)) rfl List.mem_cons_self ag132 sz132 rfl rfl) rfl rfl rfl ?_; clear S a; intro a S
    refine l_storeAll S H rfl rfl rfl sz132 (.there (.there (.there .here))) rfl (fun v hv => by obtain ⟨y, _, rfl⟩ := List.mem_map.1 hv; rfl) rfl rfl ?_; clear S a H; intro w a H S
    refine l_nil ?_
    refine e_then ?_
    refine wp_ret ?_
    refine r_retc1 S rfl rfl (lva (cs := (outb (blks init (D ++ padding D.length))).map (Value.int .u8)) ag132 sz132 rfl H (List.mem_cons_of_mem _ (List.mem_cons_of_mem _ (List.mem_cons_of_mem _ List.mem_cons_self)))) ⟨rfl, _, H.sub (List.Sublist.cons _ (List.Sublist.cons_cons _ (List.Sublist.cons _ (List.Sublist.cons _ (List.Sublist.refl _)))))⟩
  · skip
    refine wp_seq ?_
    refine c_region ?_
    refine l_pure S (p_move rfl) rfl rfl rfl ?_; clear S a; intro a S
    refine l_pure S (p_rem rfl rfl (by omega) (nat_rem D.length 64)) rfl rfl rfl ?_; clear S a; intro a S
    refine l_pure S (p_lss rfl rfl) rfl rfl rfl ?_; clear S a; intro a S
    refine l_nil ?_
    refine e_then ?_
    refine c_cond S rfl (fun c7 => ?_) (fun c7 => ?_)
    · skip
      have c7 := of_decide_eq_true c7
      refine c_region ?_
      refine l_pure S (p_move rfl) rfl rfl rfl ?_; clear S a; intro a S
      refine l_pure S (p_rem rfl rfl (by omega) (nat_rem D.length 64)) rfl rfl rfl ?_; clear S a; intro a S
      refine l_pure S (p_sub rfl rfl (nat_subU (x := 56) (y := (D.length % 64)) (by omega) (by omega))) rfl rfl rfl ?_; clear S a; intro a S
      refine l_pure S (p_assign rfl) rfl rfl rfl ?_; clear S a; intro a S
      refine l_nil ?_
      refine e_then ?_
      exact ⟨(56 - (D.length % 64)), S.only ⟨rfl, rfl, rfl, rfl, rfl, trivial⟩, H, ⟨by unfold zn; omega, by unfold zn; omega⟩⟩
    · skip
      have c7 := of_decide_eq_false c7
      refine c_region ?_
      refine l_pure S (p_move rfl) rfl rfl rfl ?_; clear S a; intro a S
      refine l_pure S (p_rem rfl rfl (by omega) (nat_rem D.length 64)) rfl rfl rfl ?_; clear S a; intro a S
      refine l_pure S (p_sub rfl rfl (nat_subU (x := 120) (y := (D.length % 64)) (by omega) (by omega))) rfl rfl rfl ?_; clear S a; intro a S
      refine l_pure S (p_assign rfl) rfl rfl rfl ?_; clear S a; intro a S
      refine l_nil ?_
      refine e_then ?_
      exact ⟨(120 - (D.length % 64)), S.only ⟨rfl, rfl, rfl, rfl, rfl, trivial⟩, H, ⟨by unfold zn; omega, by unfold zn; omega⟩⟩
end ck
end Go.Proofs.YtnmelglnkefjfaaGreatDoor.sha
