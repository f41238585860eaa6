/- SHA-1: the reference, walked. -/
import Derived.Test.YtnmelglnkefjfaaGreatDoorProg
import Derived.Test.YtnmelglnkefjfaaGreatDoorShap
namespace Go.Proofs.YtnmelglnkefjfaaGreatDoor.sha
open Go.RowKit Go.Proofs.HHW Go.Proofs.YtnmelglnkefjfaaGreatDoorW.PrintWords
set_option linter.unusedVariables false
set_option linter.unusedSimpArgs false
theorem ag105 : aggB Tryz.prog 105 = some false := by kernel_rfl
theorem ag106 : aggB Tryz.prog 106 = some true := by kernel_rfl
theorem ag153 : aggB Tryz.prog 153 = some true := by kernel_rfl
theorem ag5 : aggB Tryz.prog 5 = some false := by kernel_rfl
theorem sz105 : szB Tryz.prog 105 = some 1 := by kernel_rfl
theorem sz106 : szB Tryz.prog 106 = some 5 := by kernel_rfl
theorem sz153 : szB Tryz.prog 153 = some 80 := by kernel_rfl
theorem sz5 : szB Tryz.prog 5 = some 1 := by kernel_rfl
theorem zv5 : zvB Tryz.prog 5 = some (.int .u8 0) := by kernel_rfl
theorem zv106 : zvB Tryz.prog 106 = some (.agg (fv (w32 fun _ => 0#32) 5).toArray) := by kernel_rfl
theorem zv153 : zvB Tryz.prog 153 = some (.agg (fv (w32 fun _ => 0#32) 80).toArray) := by kernel_rfl
theorem in5 : (Tryz.prog.info? 5).map (fun i => (i.zero, i.size, i.bytes)) = some (some (.int .u8 0), 1, 1) := by kernel_rfl
theorem turned (x : BitVec 32) (n : Nat) (h : 1 ≤ n ∧ n < 32) (w0 : World) : Calls Tryz.prog 59 #[.int .u32 (x.toNat : Int), .int .i64 (n : Int)] w0 fun e w' => e = .returned (.int .u32 ((rot x n).toNat : Int)) ∧ Below w0.heap.size w0 w' := by
  have H := HH.start w0
  refine c_enter (args := [.int .u32 (x.toNat : Int), .int .i64 (n : Int)]) (k := 11) Tryz.func59 rfl rfl rfl (fun a S => ?_)
  refine wp_seq ?_
  refine c_region ?_
  refine l_pure S (p_assign rfl) rfl rfl rfl ?_; clear S a; intro a S
  refine l_nil ?_
  refine e_then ?_
  refine wp_seq ?_
  refine d_start (id := 1) [] 9 #[false, false, false, false, false, false, false, false, false] H rfl rfl rfl (fun w H => ?_)
  refine d_pure (i := 0) #[true, false, false, false, false, false, false, false, false] S rfl (p_move rfl) (wanted_none rfl) rfl rfl (by kernel_rfl) (fun _ _ _ h => h) ?_; clear S a; intro a S
  refine d_pure (i := 1) #[true, true, false, false, false, false, false, false, false] S rfl (p_move rfl) (wanted_none rfl) rfl rfl (by kernel_rfl) (fun _ _ _ h => h) ?_; clear S a; intro a S
  refine d_pure (i := 2) #[true, true, true, false, false, false, false, false, false] S rfl (p_shl rfl rfl (by omega) (shl32 x (n := n) rfl (by omega))) (wanted_none rfl) rfl rfl (by kernel_rfl) (fun _ _ _ h => h) ?_; clear S a; intro a S
  refine d_pure (i := 3) #[true, true, true, true, false, false, false, false, false] S rfl (p_move rfl) (wanted_none rfl) rfl rfl (by kernel_rfl) (fun _ _ _ h => h) ?_; clear S a; intro a S
  refine d_pure (i := 4) #[true, true, true, true, true, false, false, false, false] S rfl (p_move rfl) (wanted_none rfl) rfl rfl (by kernel_rfl) (fun _ _ _ h => h) ?_; clear S a; intro a S
  refine d_pure (i := 5) #[true, true, true, true, true, true, false, false, false] S rfl (p_sub rfl rfl (nat_sub (x := 32) (y := n) (by omega) (by omega))) (wanted_none rfl) rfl rfl (by kernel_rfl) (fun _ _ _ h => h) ?_; clear S a; intro a S
  refine d_pure (i := 6) #[true, true, true, true, true, true, true, false, false] S rfl (p_shr rfl rfl (by omega) (shr32 x (n := (32 - n)) rfl (by omega))) (wanted_none rfl) rfl rfl (by kernel_rfl) (fun _ _ _ h => h) ?_; clear S a; intro a S
  refine d_pure (i := 7) #[true, true, true, true, true, true, true, true, false] S rfl (p_or rfl rfl (or32 (x <<< (n)) (x >>> ((32 - n))))) (wanted_none rfl) rfl rfl (by kernel_rfl) (fun _ _ _ h => h) ?_; clear S a; intro a S
  refine d_pure (i := 8) #[true, true, true, true, true, true, true, true, true] S rfl (p_assign rfl) (wanted_none rfl) rfl rfl (by kernel_rfl) (fun _ _ _ h => h) ?_; clear S a; intro a S
  refine d_done (by kernel_rfl) ?_
  refine e_then ?_
  refine wp_ret ?_
  exact r_ret1 S rfl rfl ⟨rfl, H.below⟩
theorem mixed (t : Nat) (b c d : BitVec 32) (h : t < 80) (w0 : World) : Calls Tryz.prog 60 #[.int .i64 (t : Int), .int .u32 (b.toNat : Int), .int .u32 (c.toNat : Int), .int .u32 (d.toNat : Int)] w0 fun e w' => e = .returned (.tuple #[.int .u32 ((fF t b c d).toNat : Int), .int .u32 ((kF t).toNat : Int)]) ∧ Below w0.heap.size w0 w' := by
  have H := HH.start w0
  refine c_enter (args := [.int .i64 (t : Int), .int .u32 (b.toNat : Int), .int .u32 (c.toNat : Int), .int .u32 (d.toNat : Int)]) (k := 43) Tryz.func60 rfl rfl rfl (fun a S => ?_)
  refine wp_seq ?_
  refine c_region ?_
  refine l_pure S (p_assign rfl) rfl rfl rfl ?_; clear S a; intro a S
  refine l_pure S (p_assign rfl) rfl rfl rfl ?_; clear S a; intro a S
  refine l_nil ?_
  refine e_then ?_
  refine wp_seq ?_
  refine wp_seq ?_
  refine c_region ?_
  refine l_pure S (p_move rfl) rfl rfl rfl ?_; clear S a; intro a S
  refine l_pure S (p_quo rfl rfl (by omega) (nat_quo t 20 (by omega))) rfl rfl rfl ?_; clear S a; intro a S
  refine l_nil ?_
  refine e_then ?_
  refine wp_block ?_
  refine wp_seq ?_
  refine c_region ?_
  refine l_pure S (p_eql rfl rfl) rfl rfl rfl ?_; clear S a; intro a S
  refine l_pure S (p_assign rfl) rfl rfl rfl ?_; clear S a; intro a S
  refine l_nil ?_
  refine e_then ?_
  refine c_cond S rfl (fun c2 => ?_) (fun c2 => ?_)
  · skip
    have c2 := eq_of_beq c2
    refine wp_seq ?_
    refine c_region ?_
    refine l_pure S (p_move rfl) rfl rfl rfl ?_; clear S a; intro a S
    refine l_pure S (p_move rfl) rfl rfl rfl ?_; clear S a; intro a S
    refine l_pure S (p_and rfl rfl (and32 b c)) rfl rfl rfl ?_; clear S a; intro a S
    refine l_pure S (p_move rfl) rfl rfl rfl ?_; clear S a; intro a S
    refine l_pure S (p_un rfl (fun w => not32 b w)) rfl rfl rfl ?_; clear S a; intro a S
    refine l_pure S (p_move rfl) rfl rfl rfl ?_; clear S a; intro a S
    refine l_pure S (p_and rfl rfl (and32 (~~~ b) d)) rfl rfl rfl ?_; clear S a; intro a S
    refine l_pure S (p_xor rfl rfl (xor32 (b &&& c) ((~~~ b) &&& d))) rfl rfl rfl ?_; clear S a; intro a S
    refine l_pure S (p_assign rfl) rfl rfl rfl ?_; clear S a; intro a S
    refine l_pure S (p_assign rfl) rfl rfl rfl ?_; clear S a; intro a S
    refine l_nil ?_
    refine e_then ?_
    refine wp_ret ?_
    refine e_in_ret ?_
    refine e_then_ret ?_
    refine r_ret2 S rfl rfl rfl ⟨?_, H.below⟩
    unfold fF kF
    first | (rw [show t / 20 = 0 by omega]; rfl) | (rw [show t / 20 = 1 by omega]; rfl) | (rw [show t / 20 = 2 by omega]; rfl) | (rw [show t / 20 = 3 by omega]; rfl)
  · skip
    have c2 := ne_of_beq_false c2
    refine wp_seq ?_
    refine c_region ?_
    refine l_pure S (p_eql rfl rfl) rfl rfl rfl ?_; clear S a; intro a S
    refine l_pure S (p_assign rfl) rfl rfl rfl ?_; clear S a; intro a S
    refine l_nil ?_
    refine e_then ?_
    refine c_cond S rfl (fun c4 => ?_) (fun c4 => ?_)
    · skip
      have c4 := eq_of_beq c4
      refine wp_seq ?_
      refine c_region ?_
      refine l_pure S (p_move rfl) rfl rfl rfl ?_; clear S a; intro a S
      refine l_pure S (p_move rfl) rfl rfl rfl ?_; clear S a; intro a S
      refine l_pure S (p_xor rfl rfl (xor32 b c)) rfl rfl rfl ?_; clear S a; intro a S
      refine l_pure S (p_move rfl) rfl rfl rfl ?_; clear S a; intro a S
      refine l_pure S (p_xor rfl rfl (xor32 (b ^^^ c) d)) rfl rfl rfl ?_; clear S a; intro a S
      refine l_pure S (p_assign rfl) rfl rfl rfl ?_; clear S a; intro a S
      refine l_pure S (p_assign rfl) rfl rfl rfl ?_; clear S a; intro a S
      refine l_nil ?_
      refine e_then ?_
      refine wp_ret ?_
      refine e_in_ret ?_
      refine e_then_ret ?_
      refine r_ret2 S rfl rfl rfl ⟨?_, H.below⟩
      unfold fF kF
      first | (rw [show t / 20 = 0 by omega]; rfl) | (rw [show t / 20 = 1 by omega]; rfl) | (rw [show t / 20 = 2 by omega]; rfl) | (rw [show t / 20 = 3 by omega]; rfl)
    · skip
      have c4 := ne_of_beq_false c4
      refine wp_seq ?_
      refine c_region ?_
      refine l_pure S (p_eql rfl rfl) rfl rfl rfl ?_; clear S a; intro a S
      refine l_pure S (p_assign rfl) rfl rfl rfl ?_; clear S a; intro a S
      refine l_nil ?_
      refine e_then ?_
      refine c_cond S rfl (fun c6 => ?_) (fun c6 => ?_)
      · skip
        have c6 := eq_of_beq c6
        refine wp_seq ?_
        refine c_region ?_
        refine l_pure S (p_move rfl) rfl rfl rfl ?_; clear S a; intro a S
        refine l_pure S (p_move rfl) rfl rfl rfl ?_; clear S a; intro a S
        refine l_pure S (p_and rfl rfl (and32 b c)) rfl rfl rfl ?_; clear S a; intro a S
        refine l_pure S (p_move rfl) rfl rfl rfl ?_; clear S a; intro a S
        refine l_pure S (p_move rfl) rfl rfl rfl ?_; clear S a; intro a S
        refine l_pure S (p_and rfl rfl (and32 b d)) rfl rfl rfl ?_; clear S a; intro a S
        refine l_pure S (p_xor rfl rfl (xor32 (b &&& c) (b &&& d))) rfl rfl rfl ?_; clear S a; intro a S
        refine l_pure S (p_move rfl) rfl rfl rfl ?_; clear S a; intro a S
        refine l_pure S (p_move rfl) rfl rfl rfl ?_; clear S a; intro a S
        refine l_pure S (p_and rfl rfl (and32 c d)) rfl rfl rfl ?_; clear S a; intro a S
        refine l_pure S (p_xor rfl rfl (xor32 ((b &&& c) ^^^ (b &&& d)) (c &&& d))) rfl rfl rfl ?_; clear S a; intro a S
        refine l_pure S (p_assign rfl) rfl rfl rfl ?_; clear S a; intro a S
        refine l_pure S (p_assign rfl) rfl rfl rfl ?_; clear S a; intro a S
        refine l_nil ?_
        refine e_then ?_
        refine wp_ret ?_
        refine e_in_ret ?_
        refine e_then_ret ?_
        refine r_ret2 S rfl rfl rfl ⟨?_, H.below⟩
        unfold fF kF
        first | (rw [show t / 20 = 0 by omega]; rfl) | (rw [show t / 20 = 1 by omega]; rfl) | (rw [show t / 20 = 2 by omega]; rfl) | (rw [show t / 20 = 3 by omega]; rfl)
      · skip
        have c6 := ne_of_beq_false c6
        refine wp_skip ?_
        refine e_in 0 ?_
        refine e_then ?_
        refine wp_seq ?_
        refine c_region ?_
        refine l_pure S (p_move rfl) rfl rfl rfl ?_; clear S a; intro a S
        refine l_pure S (p_move rfl) rfl rfl rfl ?_; clear S a; intro a S
        refine l_pure S (p_xor rfl rfl (xor32 b c)) rfl rfl rfl ?_; clear S a; intro a S
        refine l_pure S (p_move rfl) rfl rfl rfl ?_; clear S a; intro a S
        refine l_pure S (p_xor rfl rfl (xor32 (b ^^^ c) d)) rfl rfl rfl ?_; clear S a; intro a S
        refine l_pure S (p_assign rfl) rfl rfl rfl ?_; clear S a; intro a S
        refine l_pure S (p_assign rfl) rfl rfl rfl ?_; clear S a; intro a S
        refine l_nil ?_
        refine e_then ?_
        refine wp_ret ?_
        refine r_ret2 S rfl rfl rfl ⟨?_, H.below⟩
        unfold fF kF
        first | (rw [show t / 20 = 0 by omega]; rfl) | (rw [show t / 20 = 1 by omega]; rfl) | (rw [show t / 20 = 2 by omega]; rfl) | (rw [show t / 20 = 3 by omega]; rfl)
def sch (m : Nat → Wd) (t : Nat) : Nat → Wd := fun j => if j < t then ws m j else 0#32
theorem sch0 (m : Nat → Wd) : sch m 0 = fun _ => 0#32 := by funext j; simp [sch]
theorem sch_at {m : Nat → Wd} {t j : Nat} (h : j < t) : sch m t j = ws m j := by simp [sch, h]
theorem sch_up (m : Nat → Wd) (t : Nat) {x : Wd} (hx : x = ws m t) : up (sch m t) t x = sch m (t + 1) := by
  subst hx
  funext j
  unfold up sch
  by_cases e : j = t
  · subst e; simp
  · by_cases l : j < t
    · simp [e, l, Nat.lt_succ_of_lt l]
    · have : ¬ j < t + 1 := by omega
      simp [e, l, this]
def adT (h v : St) (i : Nat) : Nat → Wd := fun j => if j < i then h.at j + v.at j else h.at j
theorem adT0 (h v : St) : adT h v 0 = h.at := by funext j; simp [adT]
theorem adT_up (h v : St) (i : Nat) : up (adT h v i) i (adT h v i i + v.at i) = adT h v (i + 1) := by
  funext j
  unfold up adT
  by_cases e : j = i
  · subst e; simp
  · by_cases l : j < i
    · simp [e, l, Nat.lt_succ_of_lt l]
    · have : ¬ j < i + 1 := by omega
      simp [e, l, this]
theorem adT5 (h v : St) : fv (w32 (adT h v 5)) 5 = fv (w32 (h.add v).at) 5 := rfl
set_option maxRecDepth 100000 in
set_option maxHeartbeats 2000000 in
theorem block (h : St) (l : List Int) (gb ob cb : Nat) (w0 : World) (hl : l.length = 64) (hby : ∀ x ∈ l, 0 ≤ x ∧ x ≤ 255) (hr : RB w0 gb ob l) : Calls Tryz.prog 45 #[.agg (fv (w32 h.at) 5).toArray, .slice (some ⟨gb, ob, none⟩) l.length cb] w0 fun e w' => e = .returned (.agg (fv (w32 (blk (mw l) h).at) 5).toArray) ∧ Below w0.heap.size w0 w' := by
  have H := HH.start w0
  refine c_enter (args := [.agg (fv (w32 h.at) 5).toArray, .slice (some ⟨gb, ob, none⟩) l.length cb]) (k := 129) Tryz.func45 rfl rfl rfl (fun a S => ?_)
  refine wp_seq ?_
  refine c_region ?_
  refine l_box (cs := (fv (w32 h.at) 5).toArray) S H rfl rfl (fun w => bx) rfl rfl rfl ?_; clear S a H; intro g1 w a H S
  refine l_alloc (cs := (fv (w32 fun _ => 0#32) 5).toArray) S H rfl (fun w => al zv106) rfl rfl rfl ?_; clear S a H; intro g2 w a H S
  refine l_nil ?_
  refine e_then ?_
  refine wp_seq ?_
  refine c_region ?_
  refine l_alloc (cs := (fv (w32 fun _ => 0#32) 80).toArray) S H rfl (fun w => al zv153) rfl rfl rfl ?_; clear S a H; intro g3 w a H S
  refine l_nil ?_
  refine e_then ?_
  refine wp_seq ?_
  refine wp_seq ?_
  refine c_region ?_
  refine l_pure S (p_move rfl) rfl rfl rfl ?_; clear S a; intro a S
  refine l_nil ?_
  refine e_then ?_
  refine wp_block ?_
  rw [← sch0 (mw l)] at H
  refine c_loop (σ := Nat) (fun s_ a w => match s_ with | t => SL a 131 [] [(1, .slice (some ⟨gb, ob, none⟩) l.length cb), (2, .pointer (some ⟨g1, 0, none⟩)), (4, .pointer (some ⟨g2, 0, none⟩)), (5, .pointer (some ⟨g3, 0, none⟩)), (14, .int .i64 (t : Int))] ∧ HH (w0.heap.size) w0 w [(g3, .cells (fv (w32 (sch (mw l) t)) 80).toArray 153 (0, 0)), (g2, .cells (fv (w32 fun _ => 0#32) 5).toArray 106 (0, 0)), (g1, .cells (fv (w32 h.at) 5).toArray 106 (0, 0))] ∧ (t ≤ 80)) (fun s_ => match s_ with | t => 80 - t) 0 ⟨S.only ⟨rfl, rfl, rfl, rfl, rfl, trivial⟩, H, Nat.zero_le _⟩ ?_
  clear S a H; rintro t a w ⟨S, H, hinv⟩
  refine wp_seq ?_
  refine c_region ?_
  refine l_pure S (p_lss rfl rfl) rfl rfl rfl ?_; clear S a; intro a S
  refine l_nil ?_
  refine e_then ?_
  refine wp_seq ?_
  refine c_cond S rfl (fun c5 => ?_) (fun c5 => ?_)
  · skip
    have c5 := of_decide_eq_true c5
    refine wp_skip ?_
    refine e_then ?_
    refine wp_seq ?_
    refine wp_block ?_
    refine wp_seq ?_
    refine c_region ?_
    refine l_pure S (p_move rfl) rfl rfl rfl ?_; clear S a; intro a S
    refine l_pure S (p_assign rfl) rfl rfl rfl ?_; clear S a; intro a S
    refine l_nil ?_
    refine e_then ?_
    refine wp_seq ?_
    refine c_region ?_
    refine l_pure S (p_move rfl) rfl rfl rfl ?_; clear S a; intro a S
    refine l_pure S (p_lss rfl rfl) rfl rfl rfl ?_; clear S a; intro a S
    refine l_nil ?_
    refine e_then ?_
    refine c_cond S rfl (fun c7 => ?_) (fun c7 => ?_)
    · skip
      have c7 := of_decide_eq_true c7
      refine d_start (id := 6) [35] 36 #[false, false, false, false, false, false, false, false, false, false, false, false, false, false, false, false, false, false, false, false, false, false, false, false, false, false, false, false, false, false, false, false, false, false, false, false] H rfl rfl rfl (fun w H => ?_)
      refine d_pure (i := 0) #[true, false, false, false, false, false, false, false, false, false, false, false, false, false, false, false, false, false, false, false, false, false, false, false, false, false, false, false, false, false, false, false, false, false, false, false] S rfl (p_move rfl) (wanted_none rfl) rfl rfl (by kernel_rfl) (fun _ _ _ h => h) ?_; clear S a; intro a S
      refine d_pure (i := 1) #[true, true, false, false, false, false, false, false, false, false, false, false, false, false, false, false, false, false, false, false, false, false, false, false, false, false, false, false, false, false, false, false, false, false, false, false] S rfl (p_move rfl) (wanted_none rfl) rfl rfl (by kernel_rfl) (fun _ _ _ h => h) ?_; clear S a; intro a S
      refine d_pure (i := 2) #[true, true, true, false, false, false, false, false, false, false, false, false, false, false, false, false, false, false, false, false, false, false, false, false, false, false, false, false, false, false, false, false, false, false, false, false] S rfl (p_move rfl) (wanted_none rfl) rfl rfl (by kernel_rfl) (fun _ _ _ h => h) ?_; clear S a; intro a S
      refine d_pure (i := 3) #[true, true, true, true, false, false, false, false, false, false, false, false, false, false, false, false, false, false, false, false, false, false, false, false, false, false, false, false, false, false, false, false, false, false, false, false] S rfl (p_mul rfl rfl (nat_mul (x := 4) (y := t) (by omega))) (wanted_none rfl) rfl rfl (by kernel_rfl) (fun _ _ _ h => h) ?_; clear S a; intro a S
      refine d_pure (i := 4) #[true, true, true, true, true, false, false, false, false, false, false, false, false, false, false, false, false, false, false, false, false, false, false, false, false, false, false, false, false, false, false, false, false, false, false, false] S rfl (p_indexAddr rfl rfl (fun w => ia_slice Tryz.underlying39 sz5 (by omega) (by omega))) (wanted_none rfl) rfl rfl (by kernel_rfl) (fun _ _ _ h => h) ?_; clear S a; intro a S
      refine d_read (i := 5) #[true, true, true, true, true, true, false, false, false, false, false, false, false, false, false, false, false, false, false, false, false, false, false, false, false, false, false, false, false, false, false, false, false, false, false, false] S H rfl (r_byte (l := l) (i := (4 * t)) (v := ((b8 l ((4 * t))).toNat : Int)) rfl (by omega) ag5 hr rfl (ints_range' l hby _ (by omega))) (wanted_none rfl) rfl rfl (by kernel_rfl) (fun _ _ _ h => h) ?_; clear S a; intro a S
      refine d_pure (i := 6) #[true, true, true, true, true, true, true, false, false, false, false, false, false, false, false, false, false, false, false, false, false, false, false, false, false, false, false, false, false, false, false, false, false, false, false, false] S rfl (p_conv rfl (fun w => cv_int (Tryz.underlying5) (Tryz.underlying105) (w8to32 (b8 l ((4 * t)))))) (wanted_none rfl) rfl rfl (by kernel_rfl) (fun _ _ _ h => h) ?_; clear S a; intro a S
      refine d_pure (i := 7) #[true, true, true, true, true, true, true, true, false, false, false, false, false, false, false, false, false, false, false, false, false, false, false, false, false, false, false, false, false, false, false, false, false, false, false, false] S rfl (p_shl rfl rfl (by decide) (shl32 ((b8 l ((4 * t))).setWidth 32) (n := 24) rfl (by decide))) (wanted_none rfl) rfl rfl (by kernel_rfl) (fun _ _ _ h => h) ?_; clear S a; intro a S
      refine d_pure (i := 8) #[true, true, true, true, true, true, true, true, true, false, false, false, false, false, false, false, false, false, false, false, false, false, false, false, false, false, false, false, false, false, false, false, false, false, false, false] S rfl (p_move rfl) (wanted_none rfl) rfl rfl (by kernel_rfl) (fun _ _ _ h => h) ?_; clear S a; intro a S
      refine d_pure (i := 9) #[true, true, true, true, true, true, true, true, true, true, false, false, false, false, false, false, false, false, false, false, false, false, false, false, false, false, false, false, false, false, false, false, false, false, false, false] S rfl (p_move rfl) (wanted_none rfl) rfl rfl (by kernel_rfl) (fun _ _ _ h => h) ?_; clear S a; intro a S
      refine d_pure (i := 10) #[true, true, true, true, true, true, true, true, true, true, true, false, false, false, false, false, false, false, false, false, false, false, false, false, false, false, false, false, false, false, false, false, false, false, false, false] S rfl (p_mul rfl rfl (nat_mul (x := 4) (y := t) (by omega))) (wanted_none rfl) rfl rfl (by kernel_rfl) (fun _ _ _ h => h) ?_; clear S a; intro a S
      refine d_pure (i := 11) #[true, true, true, true, true, true, true, true, true, true, true, true, false, false, false, false, false, false, false, false, false, false, false, false, false, false, false, false, false, false, false, false, false, false, false, false] S rfl (p_add rfl rfl (nat_add (x := (4 * t)) (y := 1) (by omega))) (wanted_none rfl) rfl rfl (by kernel_rfl) (fun _ _ _ h => h) ?_; clear S a; intro a S
      refine d_pure (i := 12) #[true, true, true, true, true, true, true, true, true, true, true, true, true, false, false, false, false, false, false, false, false, false, false, false, false, false, false, false, false, false, false, false, false, false, false, false] S rfl (p_indexAddr rfl rfl (fun w => ia_slice Tryz.underlying39 sz5 (by omega) (by omega))) (wanted_none rfl) rfl rfl (by kernel_rfl) (fun _ _ _ h => h) ?_; clear S a; intro a S
      refine d_read (i := 13) #[true, true, true, true, true, true, true, true, true, true, true, true, true, true, false, false, false, false, false, false, false, false, false, false, false, false, false, false, false, false, false, false, false, false, false, false] S H rfl (r_byte (l := l) (i := ((4 * t) + 1)) (v := ((b8 l (((4 * t) + 1))).toNat : Int)) rfl (by omega) ag5 hr rfl (ints_range' l hby _ (by omega))) (wanted_none rfl) rfl rfl (by kernel_rfl) (fun _ _ _ h => h) ?_; clear S a; intro a S
      refine d_pure (i := 14) #[true, true, true, true, true, true, true, true, true, true, true, true, true, true, true, false, false, false, false, false, false, false, false, false, false, false, false, false, false, false, false, false, false, false, false, false] S rfl (p_conv rfl (fun w => cv_int (Tryz.underlying5) (Tryz.underlying105) (w8to32 (b8 l (((4 * t) + 1)))))) (wanted_none rfl) rfl rfl (by kernel_rfl) (fun _ _ _ h => h) ?_; clear S a; intro a S
      refine d_pure (i := 15) #[true, true, true, true, true, true, true, true, true, true, true, true, true, true, true, true, false, false, false, false, false, false, false, false, false, false, false, false, false, false, false, false, false, false, false, false] S rfl (p_shl rfl rfl (by decide) (shl32 ((b8 l (((4 * t) + 1))).setWidth 32) (n := 16) rfl (by decide))) (wanted_none rfl) rfl rfl (by kernel_rfl) (fun _ _ _ h => h) ?_; clear S a; intro a S
      refine d_pure (i := 16) #[true, true, true, true, true, true, true, true, true, true, true, true, true, true, true, true, true, false, false, false, false, false, false, false, false, false, false, false, false, false, false, false, false, false, false, false] S rfl (p_or rfl rfl (or32 (((b8 l ((4 * t))).setWidth 32) <<< 24) (((b8 l (((4 * t) + 1))).setWidth 32) <<< 16))) (wanted_none rfl) rfl rfl (by kernel_rfl) (fun _ _ _ h => h) ?_; clear S a; intro a S
      refine d_pure (i := 17) #[true, true, true, true, true, true, true, true, true, true, true, true, true, true, true, true, true, true, false, false, false, false, false, false, false, false, false, false, false, false, false, false, false, false, false, false] S rfl (p_move rfl) (wanted_none rfl) rfl rfl (by kernel_rfl) (fun _ _ _ h => h) ?_; clear S a; intro a S
      refine d_pure (i := 18) #[true, true, true, true, true, true, true, true, true, true, true, true, true, true, true, true, true, true, true, false, false, false, false, false, false, false, false, false, false, false, false, false, false, false, false, false] S rfl (p_move rfl) (wanted_none rfl) rfl rfl (by kernel_rfl) (fun _ _ _ h => h) ?_; clear S a; intro a S
      refine d_pure (i := 19) #[true, true, true, true, true, true, true, true, true, true, true, true, true, true, true, true, true, true, true, true, false, false, false, false, false, false, false, false, false, false, false, false, false, false, false, false] S rfl (p_mul rfl rfl (nat_mul (x := 4) (y := t) (by omega))) (wanted_none rfl) rfl rfl (by kernel_rfl) (fun _ _ _ h => h) ?_; clear S a; intro a S
      refine d_pure (i := 20) #[true, true, true, true, true, true, true, true, true, true, true, true, true, true, true, true, true, true, true, true, true, false, false, false, false, false, false, false, false, false, false, false, false, false, false, false] S rfl (p_add rfl rfl (nat_add (x := (4 * t)) (y := 2) (by omega))) (wanted_none rfl) rfl rfl (by kernel_rfl) (fun _ _ _ h => h) ?_; clear S a; intro a S
      refine d_pure (i := 21) #[true, true, true, true, true, true, true, true, true, true, true, true, true, true, true, true, true, true, true, true, true, true, false, false, false, false, false, false, false, false, false, false, false, false, false, false] S rfl (p_indexAddr rfl rfl (fun w => ia_slice Tryz.underlying39 sz5 (by omega) (by omega))) (wanted_none rfl) rfl rfl (by kernel_rfl) (fun _ _ _ h => h) ?_; clear S a; intro a S
      refine d_read (i := 22) #[true, true, true, true, true, true, true, true, true, true, true, true, true, true, true, true, true, true, true, true, true, true, true, false, false, false, false, false, false, false, false, false, false, false, false, false] S H rfl (r_byte (l := l) (i := ((4 * t) + 2)) (v := ((b8 l (((4 * t) + 2))).toNat : Int)) rfl (by omega) ag5 hr rfl (ints_range' l hby _ (by omega))) (wanted_none rfl) rfl rfl (by kernel_rfl) (fun _ _ _ h => h) ?_; clear S a; intro a S
      refine d_pure (i := 23) #[true, true, true, true, true, true, true, true, true, true, true, true, true, true, true, true, true, true, true, true, true, true, true, true, false, false, false, false, false, false, false, false, false, false, false, false] S rfl (p_conv rfl (fun w => cv_int (Tryz.underlying5) (Tryz.underlying105) (w8to32 (b8 l (((4 * t) + 2)))))) (wanted_none rfl) rfl rfl (by kernel_rfl) (fun _ _ _ h => h) ?_; clear S a; intro a S
      refine d_pure (i := 24) #[true, true, true, true, true, true, true, true, true, true, true, true, true, true, true, true, true, true, true, true, true, true, true, true, true, false, false, false, false, false, false, false, false, false, false, false] S rfl (p_shl rfl rfl (by decide) (shl32 ((b8 l (((4 * t) + 2))).setWidth 32) (n := 8) rfl (by decide))) (wanted_none rfl) rfl rfl (by kernel_rfl) (fun _ _ _ h => h) ?_; clear S a; intro a S
      refine d_pure (i := 25) #[true, true, true, true, true, true, true, true, true, true, true, true, true, true, true, true, true, true, true, true, true, true, true, true, true, true, false, false, false, false, false, false, false, false, false, false] S rfl (p_or rfl rfl (or32 ((((b8 l ((4 * t))).setWidth 32) <<< 24) ||| (((b8 l (((4 * t) + 1))).setWidth 32) <<< 16)) (((b8 l (((4 * t) + 2))).setWidth 32) <<< 8))) (wanted_none rfl) rfl rfl (by kernel_rfl) (fun _ _ _ h => h) ?_; clear S a; intro a S
      refine d_pure (i := 26) #[true, true, true, true, true, true, true, true, true, true, true, true, true, true, true, true, true, true, true, true, true, true, true, true, true, true, true, false, false, false, false, false, false, false, false, false] S rfl (p_move rfl) (wanted_none rfl) rfl rfl (by kernel_rfl) (fun _ _ _ h => h) ?_; clear S a; intro a S
      refine d_pure (i := 27) #[true, true, true, true, true, true, true, true, true, true, true, true, true, true, true, true, true, true, true, true, true, true, true, true, true, true, true, true, false, false, false, false, false, false, false, false] S rfl (p_move rfl) (wanted_none rfl) rfl rfl (by kernel_rfl) (fun _ _ _ h => h) ?_; clear S a; intro a S
      refine d_pure (i := 28) #[true, true, true, true, true, true, true, true, true, true, true, true, true, true, true, true, true, true, true, true, true, true, true, true, true, true, true, true, true, false, false, false, false, false, false, false] S rfl (p_mul rfl rfl (nat_mul (x := 4) (y := t) (by omega))) (wanted_none rfl) rfl rfl (by kernel_rfl) (fun _ _ _ h => h) ?_; clear S a; intro a S
      refine d_pure (i := 29) #[true, true, true, true, true, true, true, true, true, true, true, true, true, true, true, true, true, true, true, true, true, true, true, true, true, true, true, true, true, true, false, false, false, false, false, false] S rfl (p_add rfl rfl (nat_add (x := (4 * t)) (y := 3) (by omega))) (wanted_none rfl) rfl rfl (by kernel_rfl) (fun _ _ _ h => h) ?_; clear S a; intro a S
      refine d_pure (i := 30) #[true, true, true, true, true, true, true, true, true, true, true, true, true, true, true, true, true, true, true, true, true, true, true, true, true, true, true, true, true, true, true, false, false, false, false, false] S rfl (p_indexAddr rfl rfl (fun w => ia_slice Tryz.underlying39 sz5 (by omega) (by omega))) (wanted_none rfl) rfl rfl (by kernel_rfl) (fun _ _ _ h => h) ?_; clear S a; intro a S
      refine d_read (i := 31) #[true, true, true, true, true, true, true, true, true, true, true, true, true, true, true, true, true, true, true, true, true, true, true, true, true, true, true, true, true, true, true, true, false, false, false, false] S H rfl (r_byte (l := l) (i := ((4 * t) + 3)) (v := ((b8 l (((4 * t) + 3))).toNat : Int)) rfl (by omega) ag5 hr rfl (ints_range' l hby _ (by omega))) (wanted_none rfl) rfl rfl (by kernel_rfl) (fun _ _ _ h => h) ?_; clear S a; intro a S
      refine d_pure (i := 32) #[true, true, true, true, true, true, true, true, true, true, true, true, true, true, true, true, true, true, true, true, true, true, true, true, true, true, true, true, true, true, true, true, true, false, false, false] S rfl (p_conv rfl (fun w => cv_int (Tryz.underlying5) (Tryz.underlying105) (w8to32 (b8 l (((4 * t) + 3)))))) (wanted_none rfl) rfl rfl (by kernel_rfl) (fun _ _ _ h => h) ?_; clear S a; intro a S
      refine d_pure (i := 33) #[true, true, true, true, true, true, true, true, true, true, true, true, true, true, true, true, true, true, true, true, true, true, true, true, true, true, true, true, true, true, true, true, true, true, false, false] S rfl (p_or rfl rfl (or32 (((((b8 l ((4 * t))).setWidth 32) <<< 24) ||| (((b8 l (((4 * t) + 1))).setWidth 32) <<< 16)) ||| (((b8 l (((4 * t) + 2))).setWidth 32) <<< 8)) ((b8 l (((4 * t) + 3))).setWidth 32))) (wanted_none rfl) rfl rfl (by kernel_rfl) (fun _ _ _ h => h) ?_; clear S a; intro a S
      refine d_pure (i := 34) #[true, true, true, true, true, true, true, true, true, true, true, true, true, true, true, true, true, true, true, true, true, true, true, true, true, true, true, true, true, true, true, true, true, true, true, false] S rfl (p_indexAddr rfl rfl (fun w => ia_array Tryz.underlying153 sz105 (by omega) (by omega))) (wanted_none rfl) rfl rfl (by kernel_rfl) (fun _ _ _ h => h) ?_; clear S a; intro a S
      refine d_store (i := 35) #[true, true, true, true, true, true, true, true, true, true, true, true, true, true, true, true, true, true, true, true, true, true, true, true, true, true, true, true, true, true, true, true, true, true, true, true] S H rfl rfl rfl rfl .here (by simp [fv_len]; omega) (fun w u hc hz => st1 sz105 rfl hc hz) (wanted_none rfl) rfl (by kernel_rfl) rfl ?_; clear S a H; intro w a H S
      rw [w32_set (sch (mw l) t) (i := t) ((((((b8 l ((4 * t))).setWidth 32) <<< 24) ||| (((b8 l (((4 * t) + 1))).setWidth 32) <<< 16)) ||| (((b8 l (((4 * t) + 2))).setWidth 32) <<< 8)) ||| ((b8 l (((4 * t) + 3))).setWidth 32)) (by omega)] at H
      rw [show (up (sch (mw l) t) (t) ((((((b8 l ((4 * t))).setWidth 32) <<< 24) ||| (((b8 l (((4 * t) + 1))).setWidth 32) <<< 16)) ||| (((b8 l (((4 * t) + 2))).setWidth 32) <<< 8)) ||| ((b8 l (((4 * t) + 3))).setWidth 32))) = sch (mw l) (t + 1) from sch_up _ _ (by rw [ws_lo (by omega)]; rfl)] at H
      refine d_done (by kernel_rfl) ?_
      refine e_in 1 ?_
      refine e_then ?_
      refine c_region ?_
      refine l_pure S (p_add rfl rfl (nat_add (x := t) (y := 1) (by omega))) rfl rfl rfl ?_; clear S a; intro a S
      refine l_pure S (p_move rfl) rfl rfl rfl ?_; clear S a; intro a S
      refine l_nil ?_
      refine e_then ?_
      exact ⟨(t + 1), ⟨S.only ⟨rfl, rfl, rfl, rfl, rfl, trivial⟩, H, by omega⟩, by show 80 - (t + 1) < 80 - t; omega⟩
    · skip
      have c7 := of_decide_eq_false c7
      refine d_start (id := 7) [22] 23 #[false, false, false, false, false, false, false, false, false, false, false, false, false, false, false, false, false, false, false, false, false, false, false] H rfl rfl rfl (fun w H => ?_)
      refine d_pure (i := 0) #[true, false, false, false, false, false, false, false, false, false, false, false, false, false, false, false, false, false, false, false, false, false, false] S rfl (p_move rfl) (wanted_none rfl) rfl rfl (by kernel_rfl) (fun _ _ _ h => h) ?_; clear S a; intro a S
      refine d_pure (i := 1) #[true, true, false, false, false, false, false, false, false, false, false, false, false, false, false, false, false, false, false, false, false, false, false] S rfl (p_move rfl) (wanted_none rfl) rfl rfl (by kernel_rfl) (fun _ _ _ h => h) ?_; clear S a; intro a S
      refine d_pure (i := 2) #[true, true, true, false, false, false, false, false, false, false, false, false, false, false, false, false, false, false, false, false, false, false, false] S rfl (p_sub rfl rfl (nat_sub (x := t) (y := 3) (by omega) (by omega))) (wanted_none rfl) rfl rfl (by kernel_rfl) (fun _ _ _ h => h) ?_; clear S a; intro a S
      refine d_pure (i := 3) #[true, true, true, true, false, false, false, false, false, false, false, false, false, false, false, false, false, false, false, false, false, false, false] S rfl (p_indexAddr rfl rfl (fun w => ia_array Tryz.underlying153 sz105 (by omega) (by omega))) (wanted_none rfl) rfl rfl (by kernel_rfl) (fun _ _ _ h => h) ?_; clear S a; intro a S
      refine d_read (i := 4) #[true, true, true, true, true, false, false, false, false, false, false, false, false, false, false, false, false, false, false, false, false, false, false] S H rfl (r_load rfl List.mem_cons_self (w32_get (sch (mw l) t) (i := (t - 3)) (by omega) (by omega)) (fun w hc => ld1 ag105 hc)) (wanted_none rfl) rfl rfl (by kernel_rfl) (fun _ _ _ h => h) ?_; clear S a; intro a S
      refine d_pure (i := 5) #[true, true, true, true, true, true, false, false, false, false, false, false, false, false, false, false, false, false, false, false, false, false, false] S rfl (p_move rfl) (wanted_none rfl) rfl rfl (by kernel_rfl) (fun _ _ _ h => h) ?_; clear S a; intro a S
      refine d_pure (i := 6) #[true, true, true, true, true, true, true, false, false, false, false, false, false, false, false, false, false, false, false, false, false, false, false] S rfl (p_sub rfl rfl (nat_sub (x := t) (y := 8) (by omega) (by omega))) (wanted_none rfl) rfl rfl (by kernel_rfl) (fun _ _ _ h => h) ?_; clear S a; intro a S
      refine d_pure (i := 7) #[true, true, true, true, true, true, true, true, false, false, false, false, false, false, false, false, false, false, false, false, false, false, false] S rfl (p_indexAddr rfl rfl (fun w => ia_array Tryz.underlying153 sz105 (by omega) (by omega))) (wanted_none rfl) rfl rfl (by kernel_rfl) (fun _ _ _ h => h) ?_; clear S a; intro a S
      refine d_read (i := 8) #[true, true, true, true, true, true, true, true, true, false, false, false, false, false, false, false, false, false, false, false, false, false, false] S H rfl (r_load rfl List.mem_cons_self (w32_get (sch (mw l) t) (i := (t - 8)) (by omega) (by omega)) (fun w hc => ld1 ag105 hc)) (wanted_none rfl) rfl rfl (by kernel_rfl) (fun _ _ _ h => h) ?_; clear S a; intro a S
      refine d_pure (i := 9) #[true, true, true, true, true, true, true, true, true, true, false, false, false, false, false, false, false, false, false, false, false, false, false] S rfl (p_xor rfl rfl (xor32 ((sch (mw l) t) ((t - 3))) ((sch (mw l) t) ((t - 8))))) (wanted_none rfl) rfl rfl (by kernel_rfl) (fun _ _ _ h => h) ?_; clear S a; intro a S
      refine d_pure (i := 10) #[true, true, true, true, true, true, true, true, true, true, true, false, false, false, false, false, false, false, false, false, false, false, false] S rfl (p_move rfl) (wanted_none rfl) rfl rfl (by kernel_rfl) (fun _ _ _ h => h) ?_; clear S a; intro a S
      refine d_pure (i := 11) #[true, true, true, true, true, true, true, true, true, true, true, true, false, false, false, false, false, false, false, false, false, false, false] S rfl (p_sub rfl rfl (nat_sub (x := t) (y := 14) (by omega) (by omega))) (wanted_none rfl) rfl rfl (by kernel_rfl) (fun _ _ _ h => h) ?_; clear S a; intro a S
      refine d_pure (i := 12) #[true, true, true, true, true, true, true, true, true, true, true, true, true, false, false, false, false, false, false, false, false, false, false] S rfl (p_indexAddr rfl rfl (fun w => ia_array Tryz.underlying153 sz105 (by omega) (by omega))) (wanted_none rfl) rfl rfl (by kernel_rfl) (fun _ _ _ h => h) ?_; clear S a; intro a S
      refine d_read (i := 13) #[true, true, true, true, true, true, true, true, true, true, true, true, true, true, false, false, false, false, false, false, false, false, false] S H rfl (r_load rfl List.mem_cons_self (w32_get (sch (mw l) t) (i := (t - 14)) (by omega) (by omega)) (fun w hc => ld1 ag105 hc)) (wanted_none rfl) rfl rfl (by kernel_rfl) (fun _ _ _ h => h) ?_; clear S a; intro a S
      refine d_pure (i := 14) #[true, true, true, true, true, true, true, true, true, true, true, true, true, true, true, false, false, false, false, false, false, false, false] S rfl (p_xor rfl rfl (xor32 (((sch (mw l) t) ((t - 3))) ^^^ ((sch (mw l) t) ((t - 8)))) ((sch (mw l) t) ((t - 14))))) (wanted_none rfl) rfl rfl (by kernel_rfl) (fun _ _ _ h => h) ?_; clear S a; intro a S
      refine d_pure (i := 15) #[true, true, true, true, true, true, true, true, true, true, true, true, true, true, true, true, false, false, false, false, false, false, false] S rfl (p_move rfl) (wanted_none rfl) rfl rfl (by kernel_rfl) (fun _ _ _ h => h) ?_; clear S a; intro a S
      refine d_pure (i := 16) #[true, true, true, true, true, true, true, true, true, true, true, true, true, true, true, true, true, false, false, false, false, false, false] S rfl (p_sub rfl rfl (nat_sub (x := t) (y := 16) (by omega) (by omega))) (wanted_none rfl) rfl rfl (by kernel_rfl) (fun _ _ _ h => h) ?_; clear S a; intro a S
      refine d_pure (i := 17) #[true, true, true, true, true, true, true, true, true, true, true, true, true, true, true, true, true, true, false, false, false, false, false] S rfl (p_indexAddr rfl rfl (fun w => ia_array Tryz.underlying153 sz105 (by omega) (by omega))) (wanted_none rfl) rfl rfl (by kernel_rfl) (fun _ _ _ h => h) ?_; clear S a; intro a S
      refine d_read (i := 18) #[true, true, true, true, true, true, true, true, true, true, true, true, true, true, true, true, true, true, true, false, false, false, false] S H rfl (r_load rfl List.mem_cons_self (w32_get (sch (mw l) t) (i := (t - 16)) (by omega) (by omega)) (fun w hc => ld1 ag105 hc)) (wanted_none rfl) rfl rfl (by kernel_rfl) (fun _ _ _ h => h) ?_; clear S a; intro a S
      refine d_pure (i := 19) #[true, true, true, true, true, true, true, true, true, true, true, true, true, true, true, true, true, true, true, true, false, false, false] S rfl (p_xor rfl rfl (xor32 ((((sch (mw l) t) ((t - 3))) ^^^ ((sch (mw l) t) ((t - 8)))) ^^^ ((sch (mw l) t) ((t - 14)))) ((sch (mw l) t) ((t - 16))))) (wanted_none rfl) rfl rfl (by kernel_rfl) (fun _ _ _ h => h) ?_; clear S a; intro a S
      refine d_call (i := 20) #[true, true, true, true, true, true, true, true, true, true, true, true, true, true, true, true, true, true, true, true, true, false, false] S rfl rfl rfl Tryz.func59 rfl rfl (turned (((((sch (mw l) t) ((t - 3))) ^^^ ((sch (mw l) t) ((t - 8)))) ^^^ ((sch (mw l) t) ((t - 14)))) ^^^ ((sch (mw l) t) ((t - 16)))) 1 (by decide) w) (wanted_none rfl) rfl rfl (by kernel_rfl) rfl ?_
      rintro e w ⟨rfl, hb⟩
      refine ⟨_, rfl, H.later hb, ?_⟩; replace H := H.later hb; clear hb; clear S a; intro a S
      refine d_pure (i := 21) #[true, true, true, true, true, true, true, true, true, true, true, true, true, true, true, true, true, true, true, true, true, true, false] S rfl (p_indexAddr rfl rfl (fun w => ia_array Tryz.underlying153 sz105 (by omega) (by omega))) (wanted_none rfl) rfl rfl (by kernel_rfl) (fun _ _ _ h => h) ?_; clear S a; intro a S
      refine d_store (i := 22) #[true, true, true, true, true, true, true, true, true, true, true, true, true, true, true, true, true, true, true, true, true, true, true] S H rfl rfl rfl rfl .here (by simp [fv_len]; omega) (fun w u hc hz => st1 sz105 rfl hc hz) (wanted_none rfl) rfl (by kernel_rfl) rfl ?_; clear S a H; intro w a H S
      rw [w32_set (sch (mw l) t) (i := t) (rot (((((sch (mw l) t) ((t - 3))) ^^^ ((sch (mw l) t) ((t - 8)))) ^^^ ((sch (mw l) t) ((t - 14)))) ^^^ ((sch (mw l) t) ((t - 16)))) 1) (by omega)] at H
      rw [show (up (sch (mw l) t) (t) (rot (((((sch (mw l) t) ((t - 3))) ^^^ ((sch (mw l) t) ((t - 8)))) ^^^ ((sch (mw l) t) ((t - 14)))) ^^^ ((sch (mw l) t) ((t - 16)))) 1)) = sch (mw l) (t + 1) from sch_up _ _ (by rw [ws_hi (t := t) (by omega), sch_at (by omega), sch_at (by omega), sch_at (by omega), sch_at (by omega)])] at H
      refine d_done (by kernel_rfl) ?_
      refine e_in 1 ?_
      refine e_then ?_
      refine c_region ?_
      refine l_pure S (p_add rfl rfl (nat_add (x := t) (y := 1) (by omega))) rfl rfl rfl ?_; clear S a; intro a S
      refine l_pure S (p_move rfl) rfl rfl rfl ?_; clear S a; intro a S
      refine l_nil ?_
      refine e_then ?_
      exact ⟨(t + 1), ⟨S.only ⟨rfl, rfl, rfl, rfl, rfl, trivial⟩, H, by omega⟩, by show 80 - (t + 1) < 80 - t; omega⟩
  · skip
    have c5 := of_decide_eq_false c5
    refine wp_exit ?_
    refine e_then_exit ?_
    refine e_then_exit ?_
    refine e_in_exit ?_
    refine e_then ?_
    refine wp_seq ?_
    refine c_region ?_
    refine l_read S H (r_loadn (m := 5) rfl (List.mem_cons_of_mem _ (List.mem_cons_of_mem _ List.mem_cons_self)) ag106 sz106 (fv_len _ _) (fv_all _ _)) rfl rfl rfl ?_; clear S a; intro a S
    refine l_alloc (cs := (fv (w32 fun _ => 0#32) 5).toArray) S H rfl (fun w => al zv106) rfl rfl rfl ?_; clear S a H; intro g8 w a H S
    refine l_storeAll S H rfl rfl rfl (by rw [sz106]; simp [fv_len]) .here (by simp [fv_len]) (w32_one _ _) rfl rfl ?_; clear S a H; intro w a H S
    refine l_nil ?_
    refine e_then ?_
    refine wp_seq ?_
    refine wp_seq ?_
    refine c_region ?_
    refine l_read S H (r_loadn (m := 80) rfl (List.mem_cons_of_mem _ List.mem_cons_self) ag153 sz153 (fv_len _ _) (fv_all _ _)) rfl rfl rfl ?_; clear S a; intro a S
    refine l_pure S (p_move rfl) rfl rfl rfl ?_; clear S a; intro a S
    refine l_nil ?_
    refine e_then ?_
    refine wp_block ?_
    obtain rfl : t = 80 := by omega
    refine c_loop (σ := Nat) (fun s_ a w => match s_ with | t => SL a 131 [] [(2, .pointer (some ⟨g1, 0, none⟩)), (4, .pointer (some ⟨g2, 0, none⟩)), (7, .pointer (some ⟨g8, 0, none⟩)), (78, .agg (fv (w32 (sch (mw l) 80)) 80).toArray), (79, .int .i64 (t : Int))] ∧ HH (w0.heap.size) w0 w [(g8, .cells (fv (w32 (rnds (mw l) t h).at) 5).toArray 106 (0, 0)), (g3, .cells (fv (w32 (sch (mw l) 80)) 80).toArray 153 (0, 0)), (g2, .cells (fv (w32 fun _ => 0#32) 5).toArray 106 (0, 0)), (g1, .cells (fv (w32 h.at) 5).toArray 106 (0, 0))] ∧ (t ≤ 80)) (fun s_ => match s_ with | t => 80 - t) 0 ⟨S.only ⟨rfl, rfl, rfl, rfl, rfl, trivial⟩, H, Nat.zero_le _⟩ ?_
    clear S a H; rintro t a w ⟨S, H, hinv⟩
    refine wp_seq ?_
    refine c_region ?_
    refine l_pure S (p_lss rfl rfl) rfl rfl rfl ?_; clear S a; intro a S
    refine l_nil ?_
    refine e_then ?_
    refine wp_seq ?_
    refine c_cond S rfl (fun c10 => ?_) (fun c10 => ?_)
    · skip
      have c10 := of_decide_eq_true c10
      refine wp_skip ?_
      refine e_then ?_
      refine wp_seq ?_
      refine wp_block ?_
      refine wp_seq ?_
      refine c_region ?_
      refine l_pure S (p_move rfl) rfl rfl rfl ?_; clear S a; intro a S
      refine l_pure S (p_index rfl rfl (fun w => ix_row Tryz.underlying153 sz105 ag105 (by omega) (by omega) (show _ = some (Value.int .u32 ((ws (mw l) t).toNat : Int)) from by rw [← sch_at (m := mw l) (t := 80) (by omega)]; exact w32_get (sch (mw l) 80) (i := t) (by omega) (by omega)))) rfl rfl rfl ?_; clear S a; intro a S
      refine l_pure S (p_assign rfl) rfl rfl rfl ?_; clear S a; intro a S
      refine l_pure S (p_assign rfl) rfl rfl rfl ?_; clear S a; intro a S
      refine l_nil ?_
      refine e_then ?_
      refine wp_seq ?_
      refine c_region ?_
      refine l_pure S (p_move rfl) rfl rfl rfl ?_; clear S a; intro a S
      refine l_pure S (p_indexAddr rfl rfl (fun w => ia_array Tryz.underlying106 sz105 (by omega) (by omega))) rfl rfl rfl ?_; clear S a; intro a S
      refine l_read S H (r_load rfl List.mem_cons_self (show _ = some (Value.int .u32 (((rnds (mw l) t h).b).toNat : Int)) from w32_get (rnds (mw l) t h).at (i := 1) (by omega) (by omega)) (fun w hc => ld1 ag105 hc)) rfl rfl rfl ?_; clear S a; intro a S
      refine l_pure S (p_indexAddr rfl rfl (fun w => ia_array Tryz.underlying106 sz105 (by omega) (by omega))) rfl rfl rfl ?_; clear S a; intro a S
      refine l_read S H (r_load rfl List.mem_cons_self (show _ = some (Value.int .u32 (((rnds (mw l) t h).c).toNat : Int)) from w32_get (rnds (mw l) t h).at (i := 2) (by omega) (by omega)) (fun w hc => ld1 ag105 hc)) rfl rfl rfl ?_; clear S a; intro a S
      refine l_pure S (p_indexAddr rfl rfl (fun w => ia_array Tryz.underlying106 sz105 (by omega) (by omega))) rfl rfl rfl ?_; clear S a; intro a S
      refine l_read S H (r_load rfl List.mem_cons_self (show _ = some (Value.int .u32 (((rnds (mw l) t h).d).toNat : Int)) from w32_get (rnds (mw l) t h).at (i := 3) (by omega) (by omega)) (fun w hc => ld1 ag105 hc)) rfl rfl rfl ?_; clear S a; intro a S
      refine l_call S rfl rfl Tryz.func60 rfl rfl (mixed t (rnds (mw l) t h).b (rnds (mw l) t h).c (rnds (mw l) t h).d (by omega) w) rfl rfl rfl ?_
      rintro e w ⟨rfl, hb⟩
      refine ⟨_, rfl, ?_⟩; clear S a; intro a S
      replace H := H.later hb; clear hb
      refine l_pure S (p_move rfl) rfl rfl rfl ?_; clear S a; intro a S
      refine l_pure S (p_extract rfl rfl) rfl rfl rfl ?_; clear S a; intro a S
      refine l_pure S (p_extract rfl rfl) rfl rfl rfl ?_; clear S a; intro a S
      refine l_pure S (p_assign rfl) rfl rfl rfl ?_; clear S a; intro a S
      refine l_pure S (p_assign rfl) rfl rfl rfl ?_; clear S a; intro a S
      refine l_nil ?_
      refine e_then ?_
      refine wp_seq ?_
      refine d_start (id := 14) [] 13 #[false, false, false, false, false, false, false, false, false, false, false, false, false] H rfl rfl rfl (fun w H => ?_)
      refine d_pure (i := 0) #[true, false, false, false, false, false, false, false, false, false, false, false, false] S rfl (p_indexAddr rfl rfl (fun w => ia_array Tryz.underlying106 sz105 (by omega) (by omega))) (wanted_none rfl) rfl rfl (by kernel_rfl) (fun _ _ _ h => h) ?_; clear S a; intro a S
      refine d_read (i := 1) #[true, true, false, false, false, false, false, false, false, false, false, false, false] S H rfl (r_load rfl List.mem_cons_self (show _ = some (Value.int .u32 (((rnds (mw l) t h).a).toNat : Int)) from w32_get (rnds (mw l) t h).at (i := 0) (by omega) (by omega)) (fun w hc => ld1 ag105 hc)) (wanted_none rfl) rfl rfl (by kernel_rfl) (fun _ _ _ h => h) ?_; clear S a; intro a S
      refine d_pure (i := 3) #[true, true, false, true, false, false, false, false, false, false, false, false, false] S rfl (p_move rfl) (wanted_none rfl) rfl rfl (by kernel_rfl) (fun _ _ _ h => h) ?_; clear S a; intro a S
      refine d_pure (i := 5) #[true, true, false, true, false, true, false, false, false, false, false, false, false] S rfl (p_indexAddr rfl rfl (fun w => ia_array Tryz.underlying106 sz105 (by omega) (by omega))) (wanted_none rfl) rfl rfl (by kernel_rfl) (fun _ _ _ h => h) ?_; clear S a; intro a S
      refine d_read (i := 6) #[true, true, false, true, false, true, true, false, false, false, false, false, false] S H rfl (r_load rfl List.mem_cons_self (show _ = some (Value.int .u32 (((rnds (mw l) t h).e).toNat : Int)) from w32_get (rnds (mw l) t h).at (i := 4) (by omega) (by omega)) (fun w hc => ld1 ag105 hc)) (wanted_none rfl) rfl rfl (by kernel_rfl) (fun _ _ _ h => h) ?_; clear S a; intro a S
      refine d_pure (i := 8) #[true, true, false, true, false, true, true, false, true, false, false, false, false] S rfl (p_move rfl) (wanted_none rfl) rfl rfl (by kernel_rfl) (fun _ _ _ h => h) ?_; clear S a; intro a S
      refine d_pure (i := 10) #[true, true, false, true, false, true, true, false, true, false, true, false, false] S rfl (p_move rfl) (wanted_none rfl) rfl rfl (by kernel_rfl) (fun _ _ _ h => h) ?_; clear S a; intro a S
      refine d_call (i := 2) #[true, true, true, true, false, true, true, false, true, false, true, false, false] S rfl rfl rfl Tryz.func59 rfl rfl (turned (rnds (mw l) t h).a 5 (by decide) w) (wanted_none rfl) rfl rfl (by kernel_rfl) rfl ?_
      rintro e w ⟨rfl, hb⟩
      refine ⟨_, rfl, H.later hb, ?_⟩; replace H := H.later hb; clear hb; clear S a; intro a S
      refine d_pure (i := 4) #[true, true, true, true, true, true, true, false, true, false, true, false, false] S rfl (p_add rfl rfl (add32 (rot (rnds (mw l) t h).a 5) (fF t (rnds (mw l) t h).b (rnds (mw l) t h).c (rnds (mw l) t h).d))) (wanted_none rfl) rfl rfl (by kernel_rfl) (fun _ _ _ h => h) ?_; clear S a; intro a S
      refine d_pure (i := 7) #[true, true, true, true, true, true, true, true, true, false, true, false, false] S rfl (p_add rfl rfl (add32 ((rot (rnds (mw l) t h).a 5) + (fF t (rnds (mw l) t h).b (rnds (mw l) t h).c (rnds (mw l) t h).d)) (rnds (mw l) t h).e)) (wanted_none rfl) rfl rfl (by kernel_rfl) (fun _ _ _ h => h) ?_; clear S a; intro a S
      refine d_pure (i := 9) #[true, true, true, true, true, true, true, true, true, true, true, false, false] S rfl (p_add rfl rfl (add32 (((rot (rnds (mw l) t h).a 5) + (fF t (rnds (mw l) t h).b (rnds (mw l) t h).c (rnds (mw l) t h).d)) + (rnds (mw l) t h).e) (kF t))) (wanted_none rfl) rfl rfl (by kernel_rfl) (fun _ _ _ h => h) ?_; clear S a; intro a S
      refine d_pure (i := 11) #[true, true, true, true, true, true, true, true, true, true, true, true, false] S rfl (p_add rfl rfl (add32 ((((rot (rnds (mw l) t h).a 5) + (fF t (rnds (mw l) t h).b (rnds (mw l) t h).c (rnds (mw l) t h).d)) + (rnds (mw l) t h).e) + (kF t)) (ws (mw l) t))) (wanted_none rfl) rfl rfl (by kernel_rfl) (fun _ _ _ h => h) ?_; clear S a; intro a S
      refine d_pure (i := 12) #[true, true, true, true, true, true, true, true, true, true, true, true, true] S rfl (p_assign rfl) (wanted_none rfl) rfl rfl (by kernel_rfl) (fun _ _ _ h => h) ?_; clear S a; intro a S
      refine d_done (by kernel_rfl) ?_
      refine e_then ?_
      refine d_start (id := 15) [11] 12 #[false, false, false, false, false, false, false, false, false, false, false, false] H rfl rfl rfl (fun w H => ?_)
      refine d_pure (i := 0) #[true, false, false, false, false, false, false, false, false, false, false, false] S rfl (p_move rfl) (wanted_none rfl) rfl rfl (by kernel_rfl) (fun _ _ _ h => h) ?_; clear S a; intro a S
      refine d_pure (i := 1) #[true, true, false, false, false, false, false, false, false, false, false, false] S rfl (p_indexAddr rfl rfl (fun w => ia_array Tryz.underlying106 sz105 (by omega) (by omega))) (wanted_none rfl) rfl rfl (by kernel_rfl) (fun _ _ _ h => h) ?_; clear S a; intro a S
      refine d_read (i := 2) #[true, true, true, false, false, false, false, false, false, false, false, false] S H rfl (r_load rfl List.mem_cons_self (show _ = some (Value.int .u32 (((rnds (mw l) t h).a).toNat : Int)) from w32_get (rnds (mw l) t h).at (i := 0) (by omega) (by omega)) (fun w hc => ld1 ag105 hc)) (wanted_none rfl) rfl rfl (by kernel_rfl) (fun _ _ _ h => h) ?_; clear S a; intro a S
      refine d_pure (i := 3) #[true, true, true, true, false, false, false, false, false, false, false, false] S rfl (p_indexAddr rfl rfl (fun w => ia_array Tryz.underlying106 sz105 (by omega) (by omega))) (wanted_none rfl) rfl rfl (by kernel_rfl) (fun _ _ _ h => h) ?_; clear S a; intro a S
      refine d_read (i := 4) #[true, true, true, true, true, false, false, false, false, false, false, false] S H rfl (r_load rfl List.mem_cons_self (show _ = some (Value.int .u32 (((rnds (mw l) t h).b).toNat : Int)) from w32_get (rnds (mw l) t h).at (i := 1) (by omega) (by omega)) (fun w hc => ld1 ag105 hc)) (wanted_none rfl) rfl rfl (by kernel_rfl) (fun _ _ _ h => h) ?_; clear S a; intro a S
      refine d_pure (i := 6) #[true, true, true, true, true, false, true, false, false, false, false, false] S rfl (p_indexAddr rfl rfl (fun w => ia_array Tryz.underlying106 sz105 (by omega) (by omega))) (wanted_none rfl) rfl rfl (by kernel_rfl) (fun _ _ _ h => h) ?_; clear S a; intro a S
      refine d_read (i := 7) #[true, true, true, true, true, false, true, true, false, false, false, false] S H rfl (r_load rfl List.mem_cons_self (show _ = some (Value.int .u32 (((rnds (mw l) t h).c).toNat : Int)) from w32_get (rnds (mw l) t h).at (i := 2) (by omega) (by omega)) (fun w hc => ld1 ag105 hc)) (wanted_none rfl) rfl rfl (by kernel_rfl) (fun _ _ _ h => h) ?_; clear S a; intro a S
      refine d_pure (i := 8) #[true, true, true, true, true, false, true, true, true, false, false, false] S rfl (p_indexAddr rfl rfl (fun w => ia_array Tryz.underlying106 sz105 (by omega) (by omega))) (wanted_none rfl) rfl rfl (by kernel_rfl) (fun _ _ _ h => h) ?_; clear S a; intro a S
      refine d_read (i := 9) #[true, true, true, true, true, false, true, true, true, true, false, false] S H rfl (r_load rfl List.mem_cons_self (show _ = some (Value.int .u32 (((rnds (mw l) t h).d).toNat : Int)) from w32_get (rnds (mw l) t h).at (i := 3) (by omega) (by omega)) (fun w hc => ld1 ag105 hc)) (wanted_none rfl) rfl rfl (by kernel_rfl) (fun _ _ _ h => h) ?_; clear S a; intro a S
      refine d_call (i := 5) #[true, true, true, true, true, true, true, true, true, true, false, false] S rfl rfl rfl Tryz.func59 rfl rfl (turned (rnds (mw l) t h).b 30 (by decide) w) (wanted_none rfl) rfl rfl (by kernel_rfl) rfl ?_
      rintro e w ⟨rfl, hb⟩
      refine ⟨_, rfl, H.later hb, ?_⟩; replace H := H.later hb; clear hb; clear S a; intro a S
      refine d_pure (i := 10) #[true, true, true, true, true, true, true, true, true, true, true, false] S rfl (p_arr (vs := fv (w32 (rnds (mw l) (t + 1) h).at) 5) [.tmp 106, .tmp 108, .tmp 111, .tmp 113, .tmp 115] Tryz.underlying106 sz105 (by rw [zv106]; rfl) rfl rfl (by simp [w32_at, Value.cells])) (wanted_none rfl) rfl rfl (by kernel_rfl) (fun _ _ _ h => h) ?_; clear S a; intro a S
      refine d_storeAll (i := 11) #[true, true, true, true, true, true, true, true, true, true, true, true] S H rfl rfl rfl rfl (by rw [sz106]; simp [fv_len]) .here (by simp [fv_len]) (w32_one _ _) (wanted_none rfl) rfl (by kernel_rfl) rfl ?_; clear S a H; intro w a H S
      refine d_done (by kernel_rfl) ?_
      refine e_in 3 ?_
      refine e_then ?_
      refine c_region ?_
      refine l_pure S (p_add rfl rfl (nat_add (x := t) (y := 1) (by omega))) rfl rfl rfl ?_; clear S a; intro a S
      refine l_pure S (p_move rfl) rfl rfl rfl ?_; clear S a; intro a S
      refine l_nil ?_
      refine e_then ?_
      exact ⟨(t + 1), ⟨S.only ⟨rfl, rfl, rfl, rfl, rfl, trivial⟩, H, by omega⟩, by show 80 - (t + 1) < 80 - t; omega⟩
    · skip
      have c10 := of_decide_eq_false c10
      refine wp_exit ?_
      refine e_then_exit ?_
      refine e_then_exit ?_
      refine e_in_exit ?_
      refine e_then ?_
      refine wp_seq ?_
      refine wp_seq ?_
      refine c_region ?_
      refine l_pure S (p_move rfl) rfl rfl rfl ?_; clear S a; intro a S
      refine l_nil ?_
      refine e_then ?_
      refine wp_block ?_
      obtain rfl : t = 80 := by omega
      rw [← adT0 h (rnds (mw l) 80 h)] at H
      refine c_loop (σ := Nat) (fun s_ a w => match s_ with | i => SL a 131 [] [(2, .pointer (some ⟨g1, 0, none⟩)), (4, .pointer (some ⟨g2, 0, none⟩)), (7, .pointer (some ⟨g8, 0, none⟩)), (118, .int .i64 (i : Int))] ∧ HH (w0.heap.size) w0 w [(g8, .cells (fv (w32 (rnds (mw l) 80 h).at) 5).toArray 106 (0, 0)), (g3, .cells (fv (w32 (sch (mw l) 80)) 80).toArray 153 (0, 0)), (g2, .cells (fv (w32 fun _ => 0#32) 5).toArray 106 (0, 0)), (g1, .cells (fv (w32 (adT h (rnds (mw l) 80 h) i)) 5).toArray 106 (0, 0))] ∧ (i ≤ 5)) (fun s_ => match s_ with | i => 5 - i) 0 ⟨S.only ⟨rfl, rfl, rfl, rfl, trivial⟩, H, Nat.zero_le _⟩ ?_
      clear S a H; rintro i a w ⟨S, H, hinv⟩
      refine wp_seq ?_
      refine c_region ?_
      refine l_pure S (p_lss rfl rfl) rfl rfl rfl ?_; clear S a; intro a S
      refine l_nil ?_
      refine e_then ?_
      refine wp_seq ?_
      refine c_cond S rfl (fun c12 => ?_) (fun c12 => ?_)
      · skip
        have c12 := of_decide_eq_true c12
        refine wp_skip ?_
        refine e_then ?_
        refine wp_seq ?_
        refine wp_block ?_
        refine wp_seq ?_
        refine c_region ?_
        refine l_pure S (p_move rfl) rfl rfl rfl ?_; clear S a; intro a S
        refine l_pure S (p_assign rfl) rfl rfl rfl ?_; clear S a; intro a S
        refine l_nil ?_
        refine e_then ?_
        refine d_start (id := 20) [8] 9 #[false, false, false, false, false, false, false, false, false] H rfl rfl rfl (fun w H => ?_)
        refine d_pure (i := 0) #[true, false, false, false, false, false, false, false, false] S rfl (p_move rfl) (wanted_none rfl) rfl rfl (by kernel_rfl) (fun _ _ _ h => h) ?_; clear S a; intro a S
        refine d_pure (i := 1) #[true, true, false, false, false, false, false, false, false] S rfl (p_indexAddr rfl rfl (fun w => ia_array Tryz.underlying106 sz105 (by omega) (by omega))) (wanted_none rfl) rfl rfl (by kernel_rfl) (fun _ _ _ h => h) ?_; clear S a; intro a S
        refine d_read (i := 2) #[true, true, true, false, false, false, false, false, false] S H rfl (r_load rfl (List.mem_cons_of_mem _ (List.mem_cons_of_mem _ (List.mem_cons_of_mem _ List.mem_cons_self))) (w32_get (adT h (rnds (mw l) 80 h) i) (i := i) (by omega) (by omega)) (fun w hc => ld1 ag105 hc)) (wanted_none rfl) rfl rfl (by kernel_rfl) (fun _ _ _ h => h) ?_; clear S a; intro a S
        refine d_pure (i := 3) #[true, true, true, true, false, false, false, false, false] S rfl (p_move rfl) (wanted_none rfl) rfl rfl (by kernel_rfl) (fun _ _ _ h => h) ?_; clear S a; intro a S
        refine d_pure (i := 4) #[true, true, true, true, true, false, false, false, false] S rfl (p_indexAddr rfl rfl (fun w => ia_array Tryz.underlying106 sz105 (by omega) (by omega))) (wanted_none rfl) rfl rfl (by kernel_rfl) (fun _ _ _ h => h) ?_; clear S a; intro a S
        refine d_read (i := 5) #[true, true, true, true, true, true, false, false, false] S H rfl (r_load rfl List.mem_cons_self (w32_get (rnds (mw l) 80 h).at (i := i) (by omega) (by omega)) (fun w hc => ld1 ag105 hc)) (wanted_none rfl) rfl rfl (by kernel_rfl) (fun _ _ _ h => h) ?_; clear S a; intro a S
        refine d_pure (i := 6) #[true, true, true, true, true, true, true, false, false] S rfl (p_add rfl rfl (add32 ((adT h (rnds (mw l) 80 h) i) (i)) ((rnds (mw l) 80 h).at (i)))) (wanted_none rfl) rfl rfl (by kernel_rfl) (fun _ _ _ h => h) ?_; clear S a; intro a S
        refine d_pure (i := 7) #[true, true, true, true, true, true, true, true, false] S rfl (p_indexAddr rfl rfl (fun w => ia_array Tryz.underlying106 sz105 (by omega) (by omega))) (wanted_none rfl) rfl rfl (by kernel_rfl) (fun _ _ _ h => h) ?_; clear S a; intro a S
        refine d_store (i := 8) #[true, true, true, true, true, true, true, true, true] S H rfl rfl rfl rfl (.there (.there (.there .here))) (by simp [fv_len]; omega) (fun w u hc hz => st1 sz105 rfl hc hz) (wanted_none rfl) rfl (by kernel_rfl) rfl ?_; clear S a H; intro w a H S
        rw [w32_set (adT h (rnds (mw l) 80 h) i) (i := i) (((adT h (rnds (mw l) 80 h) i) (i)) + ((rnds (mw l) 80 h).at (i))) (by omega)] at H
        rw [adT_up] at H
        refine d_done (by kernel_rfl) ?_
        refine e_in 5 ?_
        refine e_then ?_
        refine c_region ?_
        refine l_pure S (p_add rfl rfl (nat_add (x := i) (y := 1) (by omega))) rfl rfl rfl ?_; clear S a; intro a S
        refine l_pure S (p_move rfl) rfl rfl rfl ?_; clear S a; intro a S
        refine l_nil ?_
        refine e_then ?_
        exact ⟨(i + 1), ⟨S.only ⟨rfl, rfl, rfl, rfl, trivial⟩, H, by omega⟩, by show 5 - (i + 1) < 5 - i; omega⟩
      · skip
        have c12 := of_decide_eq_false c12
        refine wp_exit ?_
        refine e_then_exit ?_
        refine e_then_exit ?_
        refine e_in_exit ?_
        refine e_then ?_
        refine wp_seq ?_
        refine c_region ?_
        refine l_read S H (r_loadn (m := 5) rfl (List.mem_cons_of_mem _ (List.mem_cons_of_mem _ (List.mem_cons_of_mem _ List.mem_cons_self))) ag106 sz106 (fv_len _ _) (fv_all _ _)) rfl rfl rfl ?_; clear S a; intro a S
        refine l_storeAll S H rfl rfl rfl (by rw [sz106]; simp [fv_len]) (.there (.there .here)) (by simp [fv_len]) (w32_one _ _) rfl rfl ?_; clear S a H; intro w a H S
        refine l_nil ?_
        refine e_then ?_
        refine wp_ret ?_
        obtain rfl : i = 5 := by omega
        rw [adT5] at H
        exact r_retc1 S rfl rfl (lva ag106 sz106 (fv_len _ _) H (List.mem_cons_of_mem _ (List.mem_cons_of_mem _ List.mem_cons_self))) ⟨rfl, H.below⟩
theorem be8_take (n : BitVec 64) {j : Nat} (h : j < 8) : (be8 n).take (j + 1) = (be8 n).take j ++ [((((n >>> (8 * (7 - j))).setWidth 8).toNat : Nat) : Int)] := by
  have hg : (be8 n)[j]? = some ((((n >>> (8 * (7 - j))).setWidth 8).toNat : Nat) : Int) := by
    unfold be8
    rw [List.getElem?_map, List.getElem?_range h, show 8 * (7 - j) = 56 - 8 * j by omega]
    rfl
  rw [List.take_add_one, hg]
  rfl
def pdA (n : Nat) (k : Nat) : List Int := 128 :: List.replicate k 0
theorem pdA_len (n k : Nat) : (pdA n k).length = k + 1 := by simp [pdA]
theorem pdA_succ (n k : Nat) : pdA n (k + 1) = pdA n k ++ [0] := by simp [pdA, List.replicate_succ']
theorem padded_eq (l : List Int) : padded l = (l ++ pdA l.length (zn l.length)) ++ (be8 (8#64 * BitVec.ofNat 64 l.length)).take 8 := by
  rw [List.take_of_length_le (by rw [be8_len]; exact Nat.le_refl _)]
  simp [padded, padding, pdA]
set_option maxHeartbeats 1000000 in
theorem padded_calls (s : ByteArray) (w0 : World) (hs : s.size ≤ 1000000) : Calls Tryz.prog 44 #[.string s] w0 fun e w' => ∃ g c, e = .returned (.slice (some ⟨g, 0, none⟩) (padded (ints s)).length c) ∧ NewRow w0 w' g c (padded (ints s)) := by
  have H := HH.start w0
  have hn := ints_len s
  refine c_enter (args := [.string s]) (k := 31) Tryz.func44 rfl rfl rfl (fun a S => ?_)
  refine wp_seq ?_
  refine c_region ?_
  refine l_pure S (p_assign rfl) rfl rfl rfl ?_; clear S a; intro a S
  refine l_nil ?_
  refine e_then ?_
  refine wp_seq ?_
  refine c_region ?_
  refine l_pure S (p_move rfl) rfl rfl rfl ?_; clear S a; intro a S
  refine l_bytesOwn (s := s) S H rfl rfl Tryz.underlying9 Tryz.underlying39 Tryz.underlying5 rfl rfl rfl ?_; clear S a H; intro v_ ow1 w a how1 H S
  rw [← ints_len s] at how1
  obtain ⟨Aow1, cow1, rfl, _⟩ := how1.slice
  refine l_lit [(.const (.int .u8 128))] S H rfl rfl Tryz.underlying39 sz5 zv5 rfl rfl (by simp [Value.cells]) rfl rfl rfl ?_; clear S a H; intro g2 w a H S
  refine l_ownB [_] (r := [128]) S H rfl rfl rfl how1 (src_lit (vs := ([128]).map (Value.int .u8)) H List.mem_cons_self Tryz.underlying39 (by simp [Value.oneCell'])) Tryz.underlying39 in5 rfl (by simp only [List.length_cons, List.length_nil]; omega) (by decide) rfl rfl rfl ?_; clear S a H; intro Aow3 cow3 ow3 w a how3 H S; replace H := H.tail
  refine l_pure S (p_assign rfl) rfl rfl rfl ?_; clear S a; intro a S
  refine l_nil ?_
  refine e_then ?_
  refine wp_seq ?_
  refine wp_block ?_
  refine c_loop (σ := Nat × Option Addr × Nat × List (Nat × Obj)) (fun s_ a w => match s_ with | ⟨k, Ak, ck, owk⟩ => SL a 32 [] [(0, .string s), (3, .slice Ak (ints s ++ pdA s.size k).length ck)] ∧ HH (w0.heap.size) w0 w (owk ++ []) ∧ (k ≤ zn s.size ∧ OwnB 5 (.slice Ak (ints s ++ pdA s.size k).length ck) (ints s ++ pdA s.size k) owk)) (fun s_ => match s_ with | ⟨k, Ak, ck, owk⟩ => zn s.size - k) ⟨0, Aow3, cow3, ow3⟩ ⟨S.only ⟨rfl, rfl, trivial⟩, H, ⟨Nat.zero_le _, how3⟩⟩ ?_
  clear S a H; rintro ⟨k, Ak, ck, owk⟩ a w ⟨S, H, hinv⟩
  obtain ⟨hkz, hk⟩ := hinv
  have hzn : zn s.size < 64 := by unfold zn; omega
  have hlk : (ints s ++ pdA s.size k).length = s.size + 1 + k := by rw [List.length_append, pdA_len, ints_len]; omega
  refine wp_seq ?_
  refine wp_seq ?_
  refine c_region ?_
  refine l_pure S (p_move rfl) rfl rfl rfl ?_; clear S a; intro a S
  refine l_pure S (p_len Tryz.underlying39 rfl) rfl rfl rfl ?_; clear S a; intro a S
  refine l_pure S (p_rem rfl rfl (by omega) (nat_rem ((ints s ++ pdA s.size k).length) 64)) rfl rfl rfl ?_; clear S a; intro a S
  refine l_pure S (p_neq rfl rfl) rfl rfl rfl ?_; clear S a; intro a S
  refine l_nil ?_
  refine e_then ?_
  refine c_cond S rfl (fun c5 => ?_) (fun c5 => ?_)
  · skip
    have c5 := bne_iff_ne.1 c5
    refine wp_skip ?_
    refine e_then ?_
    refine wp_block ?_
    refine c_region ?_
    refine l_pure S (p_move rfl) rfl rfl rfl ?_; clear S a; intro a S
    refine l_lit [(.const (.int .u8 0))] S H rfl rfl Tryz.underlying39 sz5 zv5 rfl rfl (by simp [Value.cells]) rfl rfl rfl ?_; clear S a H; intro g6 w a H S
    refine l_ownB [_] (r := [0]) S H rfl rfl rfl hk (src_lit (vs := ([0]).map (Value.int .u8)) H List.mem_cons_self Tryz.underlying39 (by simp [Value.oneCell'])) Tryz.underlying39 in5 rfl (by simp only [List.length_cons, List.length_nil]; omega) (by decide) rfl rfl rfl ?_; clear S a H; intro Aow7 cow7 ow7 w a how7 H S; replace H := H.tail
    rw [List.append_assoc, ← pdA_succ] at S how7
    have hnext := how7
    refine l_pure S (p_assign rfl) rfl rfl rfl ?_; clear S a; intro a S
    refine l_nil ?_
    refine e_in 1 ?_
    refine e_then ?_
    exact ⟨⟨k + 1, Aow7, cow7, ow7⟩, ⟨S.only ⟨rfl, rfl, trivial⟩, H, ⟨by unfold zn at *; omega, hnext⟩⟩, by show zn s.size - (k + 1) < zn s.size - k; unfold zn at *; omega⟩
  · skip
    have c5 := bne_eq_false_iff_eq.1 c5
    refine wp_exit ?_
    refine e_then_exit ?_
    refine e_then_exit ?_
    refine e_in_exit ?_
    refine e_then ?_
    refine wp_seq ?_
    refine wp_seq ?_
    refine c_region ?_
    refine l_pure S (p_assign rfl) rfl rfl rfl ?_; clear S a; intro a S
    refine l_nil ?_
    refine e_then ?_
    refine wp_block ?_
    have e0 : (ints s ++ pdA s.size k) = (ints s ++ pdA s.size k) ++ (be8 (8#64 * BitVec.ofNat 64 s.size)).take 0 := by simp
    rw [e0] at S hk
    refine c_loop (σ := Nat × Option Addr × Nat × List (Nat × Obj)) (fun s_ a w => match s_ with | ⟨j, Aj, cj, owj⟩ => SL a 32 [] [(0, .string s), (3, .slice Aj ((ints s ++ pdA s.size k) ++ (be8 (8#64 * BitVec.ofNat 64 s.size)).take j).length cj), (4, .int .i64 (7 - (j : Int)))] ∧ HH (w0.heap.size) w0 w (owj ++ []) ∧ (j ≤ 8 ∧ OwnB 5 (.slice Aj ((ints s ++ pdA s.size k) ++ (be8 (8#64 * BitVec.ofNat 64 s.size)).take j).length cj) ((ints s ++ pdA s.size k) ++ (be8 (8#64 * BitVec.ofNat 64 s.size)).take j) owj)) (fun s_ => match s_ with | ⟨j, Aj, cj, owj⟩ => 8 - j) ⟨0, Ak, ck, owk⟩ ⟨S.only ⟨rfl, rfl, rfl, trivial⟩, H, ⟨Nat.zero_le _, hk⟩⟩ ?_
    clear S a H; rintro ⟨j, Aj, cj, owj⟩ a w ⟨S, H, hinv⟩
    obtain ⟨hj8, hj⟩ := hinv
    have hlj : ((ints s ++ pdA s.size k) ++ (be8 (8#64 * BitVec.ofNat 64 s.size)).take j).length ≤ s.size + 73 := by rw [List.length_append, hlk, List.length_take, be8_len]; omega
    refine wp_seq ?_
    refine wp_seq ?_
    refine c_region ?_
    refine l_pure S (p_move rfl) rfl rfl rfl ?_; clear S a; intro a S
    refine l_pure S (p_geq rfl rfl) rfl rfl rfl ?_; clear S a; intro a S
    refine l_nil ?_
    refine e_then ?_
    refine c_cond S rfl (fun c9 => ?_) (fun c9 => ?_)
    · skip
      have c9 := of_decide_eq_true c9
      rw [show (7 - (j : Int)) = ((7 - j : Nat) : Int) by omega] at S
      refine wp_skip ?_
      refine e_then ?_
      refine wp_seq ?_
      refine wp_block ?_
      refine c_region ?_
      refine l_pure S (p_move rfl) rfl rfl rfl ?_; clear S a; intro a S
      refine l_pure S (p_move rfl) rfl rfl rfl ?_; clear S a; intro a S
      refine l_pure S (p_lens Tryz.underlying9 rfl) rfl rfl rfl ?_; clear S a; intro a S
      refine l_pure S (p_conv rfl (fun w => cv_int (Tryz.underlying3) (Tryz.underlying53) (nat_u64 s.size))) rfl rfl rfl ?_; clear S a; intro a S
      refine l_pure S (p_mul rfl rfl (mul64 8#64 (BitVec.ofNat 64 s.size))) rfl rfl rfl ?_; clear S a; intro a S
      refine l_pure S (p_move rfl) rfl rfl rfl ?_; clear S a; intro a S
      refine l_pure S (p_mul rfl rfl (nat_mul (x := 8) (y := (7 - j)) (by omega))) rfl rfl rfl ?_; clear S a; intro a S
      refine l_pure S (p_shr rfl rfl (by omega) (shr64 (8#64 * (BitVec.ofNat 64 s.size)) (n := (8 * (7 - j))) rfl (by omega))) rfl rfl rfl ?_; clear S a; intro a S
      refine l_pure S (p_conv rfl (fun w => cv_int (Tryz.underlying53) (Tryz.underlying5) (w64to8 ((8#64 * (BitVec.ofNat 64 s.size)) >>> ((8 * (7 - j))))))) rfl rfl rfl ?_; clear S a; intro a S
      refine l_lit [(.tmp 28)] S H rfl rfl Tryz.underlying39 sz5 zv5 rfl rfl (by simp [Value.cells]) rfl rfl rfl ?_; clear S a H; intro g10 w a H S
      refine l_ownB [_] (r := [((((8#64 * (BitVec.ofNat 64 s.size)) >>> ((8 * (7 - j)))).setWidth 8).toNat : Int)]) S H rfl rfl rfl hj (src_lit (vs := ([((((8#64 * (BitVec.ofNat 64 s.size)) >>> ((8 * (7 - j)))).setWidth 8).toNat : Int)]).map (Value.int .u8)) H List.mem_cons_self Tryz.underlying39 (by simp [Value.oneCell'])) Tryz.underlying39 in5 rfl (by simp only [List.length_cons, List.length_nil]; omega) (by decide) rfl rfl rfl ?_; clear S a H; intro Aow11 cow11 ow11 w a how11 H S; replace H := H.tail
      have hb8 := be8_take (8#64 * BitVec.ofNat 64 s.size) (j := j) (by omega)
      rw [List.append_assoc, ← hb8] at S how11
      have hnext := how11
      refine l_pure S (p_assign rfl) rfl rfl rfl ?_; clear S a; intro a S
      refine l_nil ?_
      refine e_in 3 ?_
      refine e_then ?_
      refine c_region ?_
      refine l_pure S (p_move rfl) rfl rfl rfl ?_; clear S a; intro a S
      refine l_pure S (p_sub (r := 7 - ((j + 1 : Nat) : Int)) rfl rfl (by rw [IntWalk.i64_in _ (by omega)]; omega)) rfl rfl rfl ?_; clear S a; intro a S
      refine l_pure S (p_assign rfl) rfl rfl rfl ?_; clear S a; intro a S
      refine l_nil ?_
      refine e_then ?_
      exact ⟨⟨j + 1, Aow11, cow11, ow11⟩, ⟨S.only ⟨rfl, rfl, rfl, trivial⟩, H, ⟨by omega, hnext⟩⟩, by show 8 - (j + 1) < 8 - j; omega⟩
    · skip
      have c9 := of_decide_eq_false c9
      refine wp_exit ?_
      refine e_then_exit ?_
      refine e_then_exit ?_
      refine e_in_exit ?_
      refine e_then ?_
      refine wp_seq ?_
      refine c_region ?_
      refine l_pure S (p_move rfl) rfl rfl rfl ?_; clear S a; intro a S
      refine l_pure S (p_assign rfl) rfl rfl rfl ?_; clear S a; intro a S
      refine l_nil ?_
      refine e_then ?_
      refine wp_ret ?_
      obtain rfl : j = 8 := by omega
      have hz : k = zn s.size := by unfold zn at *; omega
      have hpe : ((ints s ++ pdA s.size k) ++ (be8 (8#64 * BitVec.ofNat 64 s.size)).take 8) = padded (ints s) := by rw [padded_eq, hz, hn]
      rw [hpe] at S hj
      obtain ⟨g_, rfl, hnr⟩ := hj.newRow H (by rw [← hpe, List.length_append, hlk]; omega)
      exact r_ret1 S rfl rfl ⟨g_, cj, rfl, hnr⟩
theorem blk_step {l : List Int} {j : Nat} (h : 64 * j + 64 ≤ l.length) : blk (mw ((l.take (64 * j + 64)).drop (64 * j))) (blks init (l.take (64 * j))) = blks init (l.take (64 * (j + 1))) := by
  have h1 : (l.take (64 * j)).length = 64 * j := by rw [List.length_take]; omega
  have h2 : ((l.take (64 * j + 64)).drop (64 * j)).length = 64 := by rw [List.length_drop, List.length_take]; omega
  rw [← blks_one h2, ← blks_app j _ _ _ h1]
  congr 1
  have := List.take_append_drop (64 * j) (l.take (64 * j + 64))
  rw [List.take_take, Nat.min_eq_left (by omega)] at this
  exact this
theorem out_step (s : St) {i : Nat} (h : i < 5) : (outb s).take (4 * i) ++ by4 (s.at i) = (outb s).take (4 * (i + 1)) := by
  rcases i with _ | _ | _ | _ | _ | i
  · rfl
  · rfl
  · rfl
  · rfl
  · rfl
  · omega
theorem pad_range (l : List Int) (h : ∀ x ∈ l, 0 ≤ x ∧ x ≤ 255) : ∀ x ∈ padded l, 0 ≤ x ∧ x ≤ 255 := by
  intro x hx
  unfold padded padding at hx
  simp only [List.mem_append, List.mem_cons, List.mem_replicate] at hx
  rcases hx with hx | rfl | ⟨_, rfl⟩ | hx
  · exact h x hx
  · omega
  · omega
  · unfold be8 at hx
    obtain ⟨i, _, rfl⟩ := List.mem_map.1 hx
    have := (((8#64 * BitVec.ofNat 64 l.length) >>> (56 - 8 * i)).setWidth 8).isLt
    omega
set_option maxHeartbeats 2000000 in
theorem spec_sha (s : ByteArray) (w0 : World) (hs : s.size ≤ 1000000) : Calls Tryz.prog 23 #[.string s] w0 fun e w' => e = .returned (.string (strOfNums (sum (ints s)))) ∧ Below w0.heap.size w0 w' := by
  have H := HH.start w0
  refine c_enter (args := [.string s]) (k := 45) Tryz.func23 rfl rfl rfl (fun a S => ?_)
  refine wp_seq ?_
  refine c_region ?_
  refine l_pure S (p_assign rfl) rfl rfl rfl ?_; clear S a; intro a S
  refine l_nil ?_
  refine e_then ?_
  refine wp_seq ?_
  refine c_region ?_
  refine l_pure S (p_arr (vs := fv (w32 init.at) 5) [(.const (.int .u32 1732584193)), (.const (.int .u32 4023233417)), (.const (.int .u32 2562383102)), (.const (.int .u32 271733878)), (.const (.int .u32 3285377520))] Tryz.underlying106 sz105 (by rw [zv106]; rfl) rfl rfl (by simp [w32_at, Value.cells])) rfl rfl rfl ?_; clear S a; intro a S
  refine l_alloc (cs := (fv (w32 fun _ => 0#32) 5).toArray) S H rfl (fun w => al zv106) rfl rfl rfl ?_; clear S a H; intro g1 w a H S
  refine l_storeAll S H rfl rfl rfl (by rw [sz106]; simp [fv_len]) .here (by simp [fv_len]) (w32_one _ _) rfl rfl ?_; clear S a H; intro w a H S
  refine l_nil ?_
  refine e_then ?_
  refine wp_seq ?_
  refine wp_seq ?_
  refine c_region ?_
  refine l_pure S (p_move rfl) rfl rfl rfl ?_; clear S a; intro a S
  refine l_call S rfl rfl Tryz.func44 rfl rfl (padded_calls s w hs) rfl rfl rfl ?_
  rintro e w ⟨gp, cp, rfl, hnr⟩
  refine ⟨_, rfl, ?_⟩; clear S a; intro a S
  obtain ⟨csp, ep, fp, hat, hrow⟩ := hnr.row
  have hcp := hnr.cap
  replace H := H.more hnr.below hnr.new hat
  clear hnr hat
  have hp64 := padded_len (ints s)
  refine l_pure S (p_assign rfl) rfl rfl rfl ?_; clear S a; intro a S
  refine l_pure S (p_assign rfl) rfl rfl rfl ?_; clear S a; intro a S
  refine l_nil ?_
  refine e_then ?_
  refine wp_block ?_
  rw [show init.at = (blks init ((padded (ints s)).take (64 * 0))).at from by rw [blks_short (by simp)]] at H
  refine c_loop (σ := Nat) (fun s_ a w => match s_ with | j => SL a 46 [] [(3, .pointer (some ⟨g1, 0, none⟩)), (4, .int .i64 ((64 * j : Nat) : Int)), (5, .slice (some ⟨gp, 0, none⟩) (padded (ints s)).length cp)] ∧ HH (w0.heap.size) w0 w [(gp, .cells csp ep fp), (g1, .cells (fv (w32 (blks init ((padded (ints s)).take (64 * j))).at) 5).toArray 106 (0, 0))] ∧ (64 * j ≤ (padded (ints s)).length)) (fun s_ => match s_ with | j => (padded (ints s)).length - 64 * j) 0 ⟨S.only ⟨rfl, rfl, rfl, trivial⟩, H, by omega⟩ ?_
  clear S a H; rintro j a w ⟨S, H, hinv⟩
  have hpl : (padded (ints s)).length ≤ 2000000 := by unfold padded; rw [List.length_append, padding_len, ints_len]; unfold zn; omega
  refine wp_seq ?_
  refine wp_seq ?_
  refine c_region ?_
  refine l_pure S (p_move rfl) rfl rfl rfl ?_; clear S a; intro a S
  refine l_pure S (p_move rfl) rfl rfl rfl ?_; clear S a; intro a S
  refine l_pure S (p_len Tryz.underlying39 rfl) rfl rfl rfl ?_; clear S a; intro a S
  refine l_pure S (p_lss rfl rfl) rfl rfl rfl ?_; clear S a; intro a S
  refine l_nil ?_
  refine e_then ?_
  refine c_cond S rfl (fun c3 => ?_) (fun c3 => ?_)
  · skip
    have c3 := of_decide_eq_true c3
    refine wp_skip ?_
    refine e_then ?_
    refine wp_seq ?_
    refine wp_block ?_
    refine d_start (id := 5) [7] 8 #[false, false, false, false, false, false, false, false] H rfl rfl rfl (fun w H => ?_)
    refine d_read (i := 0) #[true, false, false, false, false, false, false, false] S H rfl (r_loadn (m := 5) rfl (List.mem_cons_of_mem _ List.mem_cons_self) ag106 sz106 (fv_len _ _) (fv_all _ _)) (wanted_none rfl) rfl rfl (by kernel_rfl) (fun _ _ _ h => h) ?_; clear S a; intro a S
    refine d_pure (i := 1) #[true, true, false, false, false, false, false, false] S rfl (p_move rfl) (wanted_none rfl) rfl rfl (by kernel_rfl) (fun _ _ _ h => h) ?_; clear S a; intro a S
    refine d_pure (i := 2) #[true, true, true, false, false, false, false, false] S rfl (p_move rfl) (wanted_none rfl) rfl rfl (by kernel_rfl) (fun _ _ _ h => h) ?_; clear S a; intro a S
    refine d_pure (i := 3) #[true, true, true, true, false, false, false, false] S rfl (p_move rfl) (wanted_none rfl) rfl rfl (by kernel_rfl) (fun _ _ _ h => h) ?_; clear S a; intro a S
    refine d_pure (i := 4) #[true, true, true, true, true, false, false, false] S rfl (p_add rfl rfl (nat_add (x := (64 * j)) (y := 64) (by omega))) (wanted_none rfl) rfl rfl (by kernel_rfl) (fun _ _ _ h => h) ?_; clear S a; intro a S
    refine d_pure (i := 5) #[true, true, true, true, true, true, false, false] S rfl (p_slice rfl (o_some rfl) (o_some rfl) (fun _ _ => o_none) (fun w => sl_byte (l := (padded (ints s))) (m := 64 * j) (h := 64 * j + 64) Tryz.underlying39 sz5 rfl rfl (by omega) (by omega) hcp)) (wanted_none rfl) rfl rfl (by kernel_rfl) (fun _ _ _ h => h) ?_; clear S a; intro a S
    have hch : (((padded (ints s)).take (64 * j + 64)).drop (64 * j)).length = 64 := by rw [List.length_drop, List.length_take]; omega
    have hcon := block (blks init ((padded (ints s)).take (64 * j))) (((padded (ints s)).take (64 * j + 64)).drop (64 * j)) gp (offAt 0 cp (64 * j)) (cp - 64 * j) w hch (fun x hx => pad_range _ (ints_range s) x (List.mem_of_mem_take (List.mem_of_mem_drop hx))) ((RB.of H List.mem_cons_self hrow).cut (64 * j) (64 * j + 64) hcp)
    refine d_call (i := 6) #[true, true, true, true, true, true, true, false] S rfl rfl rfl Tryz.func45 rfl rfl (hcon) (wanted_none rfl) rfl rfl (by kernel_rfl) rfl ?_
    rintro e w ⟨rfl, hb⟩
    refine ⟨_, rfl, H.later hb, ?_⟩; replace H := H.later hb; clear hb hcon; clear S a; intro a S
    refine d_storeAll (i := 7) #[true, true, true, true, true, true, true, true] S H rfl rfl rfl rfl (by rw [sz106]; simp [fv_len]) (.there .here) (by simp [fv_len]) (w32_one _ _) (wanted_none rfl) rfl (by kernel_rfl) rfl ?_; clear S a H; intro w a H S
    refine d_done (by kernel_rfl) ?_
    refine e_in 1 ?_
    refine e_then ?_
    refine c_region ?_
    refine l_pure S (p_move rfl) rfl rfl rfl ?_; clear S a; intro a S
    rw [blk_step (by omega)] at H
    refine l_pure S (p_add rfl rfl (nat_add (x := (64 * j)) (y := 64) (by omega))) rfl rfl rfl ?_; clear S a; intro a S
    refine l_pure S (p_assign rfl) rfl rfl rfl ?_; clear S a; intro a S
    refine l_nil ?_
    refine e_then ?_
    exact ⟨(j + 1), ⟨S.only ⟨rfl, rfl, rfl, trivial⟩, H, by omega⟩, by show (padded (ints s)).length - 64 * (j + 1) < (padded (ints s)).length - 64 * j; omega⟩
  · skip
    have c3 := of_decide_eq_false c3
    refine wp_exit ?_
    refine e_then_exit ?_
    refine e_then_exit ?_
    refine e_in_exit ?_
    refine e_then ?_
    refine wp_seq ?_
    refine c_region ?_
    refine l_pure S (p_assign rfl) rfl rfl rfl ?_; clear S a; intro a S
    refine l_nil ?_
    refine e_then ?_
    refine wp_seq ?_
    refine wp_seq ?_
    refine c_region ?_
    rw [List.take_of_length_le (show (padded (ints s)).length ≤ 64 * j by omega)] at H
    refine l_read S H (r_loadn (m := 5) rfl (List.mem_cons_of_mem _ List.mem_cons_self) ag106 sz106 (fv_len _ _) (fv_all _ _)) rfl rfl rfl ?_; clear S a; intro a S
    replace H := H.sub (List.nil_sublist _)
    refine l_pure S (p_move rfl) rfl rfl rfl ?_; clear S a; intro a S
    refine l_nil ?_
    refine e_then ?_
    refine wp_block ?_
    refine c_loop (σ := Nat × Option Addr × Nat × List (Nat × Obj)) (fun s_ a w => match s_ with | ⟨i, Ai, ci, owi⟩ => SL a 46 [] [(6, .slice Ai ((outb (blks init (padded (ints s)))).take (4 * i)).length ci), (25, .agg (fv (w32 (blks init (padded (ints s))).at) 5).toArray), (26, .int .i64 (i : Int))] ∧ HH (w0.heap.size) w0 w (owi ++ []) ∧ (i ≤ 5 ∧ OwnB 5 (.slice Ai ((outb (blks init (padded (ints s)))).take (4 * i)).length ci) ((outb (blks init (padded (ints s)))).take (4 * i)) owi)) (fun s_ => match s_ with | ⟨i, Ai, ci, owi⟩ => 5 - i) ⟨0, none, 0, []⟩ ⟨S.only ⟨rfl, rfl, rfl, trivial⟩, H, ⟨Nat.zero_le _, ownB_nil 5⟩⟩ ?_
    clear S a H; rintro ⟨i, Ai, ci, owi⟩ a w ⟨S, H, hinv⟩
    obtain ⟨hi5, hi⟩ := hinv
    have hil : ((outb (blks init (padded (ints s)))).take (4 * i)).length ≤ 20 := by rw [List.length_take]; have : (outb (blks init (padded (ints s)))).length = 20 := rfl; omega
    refine wp_seq ?_
    refine c_region ?_
    refine l_pure S (p_lss rfl rfl) rfl rfl rfl ?_; clear S a; intro a S
    refine l_nil ?_
    refine e_then ?_
    refine wp_seq ?_
    refine c_cond S rfl (fun c5 => ?_) (fun c5 => ?_)
    · skip
      have c5 := of_decide_eq_true c5
      refine wp_skip ?_
      refine e_then ?_
      refine wp_seq ?_
      refine wp_block ?_
      refine wp_seq ?_
      refine c_region ?_
      refine l_pure S (p_index rfl rfl (fun w => ix_row Tryz.underlying106 sz105 ag105 (by omega) (by omega) (w32_get (blks init (padded (ints s))).at (i := i) (by omega) (by omega)))) rfl rfl rfl ?_; clear S a; intro a S
      refine l_pure S (p_assign rfl) rfl rfl rfl ?_; clear S a; intro a S
      refine l_nil ?_
      refine e_then ?_
      refine c_region ?_
      refine l_pure S (p_move rfl) rfl rfl rfl ?_; clear S a; intro a S
      refine l_pure S (p_move rfl) rfl rfl rfl ?_; clear S a; intro a S
      refine l_pure S (p_shr rfl rfl (by decide) (shr32 ((blks init (padded (ints s))).at (i)) (n := 24) rfl (by decide))) rfl rfl rfl ?_; clear S a; intro a S
      refine l_pure S (p_conv rfl (fun w => cv_int (Tryz.underlying105) (Tryz.underlying5) (w32to8 (((blks init (padded (ints s))).at (i)) >>> 24)))) rfl rfl rfl ?_; clear S a; intro a S
      refine l_pure S (p_move rfl) rfl rfl rfl ?_; clear S a; intro a S
      refine l_pure S (p_shr rfl rfl (by decide) (shr32 ((blks init (padded (ints s))).at (i)) (n := 16) rfl (by decide))) rfl rfl rfl ?_; clear S a; intro a S
      refine l_pure S (p_conv rfl (fun w => cv_int (Tryz.underlying105) (Tryz.underlying5) (w32to8 (((blks init (padded (ints s))).at (i)) >>> 16)))) rfl rfl rfl ?_; clear S a; intro a S
      refine l_pure S (p_move rfl) rfl rfl rfl ?_; clear S a; intro a S
      refine l_pure S (p_shr rfl rfl (by decide) (shr32 ((blks init (padded (ints s))).at (i)) (n := 8) rfl (by decide))) rfl rfl rfl ?_; clear S a; intro a S
      refine l_pure S (p_conv rfl (fun w => cv_int (Tryz.underlying105) (Tryz.underlying5) (w32to8 (((blks init (padded (ints s))).at (i)) >>> 8)))) rfl rfl rfl ?_; clear S a; intro a S
      refine l_pure S (p_move rfl) rfl rfl rfl ?_; clear S a; intro a S
      refine l_pure S (p_conv rfl (fun w => cv_int (Tryz.underlying105) (Tryz.underlying5) (w32to8 ((blks init (padded (ints s))).at (i))))) rfl rfl rfl ?_; clear S a; intro a S
      refine l_lit [(.tmp 32), (.tmp 35), (.tmp 38), (.tmp 40)] S H rfl rfl Tryz.underlying39 sz5 zv5 rfl rfl (by simp [Value.cells]) rfl rfl rfl ?_; clear S a H; intro g6 w a H S
      refine l_ownB [_] (r := [(((((blks init (padded (ints s))).at (i)) >>> 24).setWidth 8).toNat : Int), (((((blks init (padded (ints s))).at (i)) >>> 16).setWidth 8).toNat : Int), (((((blks init (padded (ints s))).at (i)) >>> 8).setWidth 8).toNat : Int), ((((blks init (padded (ints s))).at (i)).setWidth 8).toNat : Int)]) S H rfl rfl rfl hi (src_lit (vs := ([(((((blks init (padded (ints s))).at (i)) >>> 24).setWidth 8).toNat : Int), (((((blks init (padded (ints s))).at (i)) >>> 16).setWidth 8).toNat : Int), (((((blks init (padded (ints s))).at (i)) >>> 8).setWidth 8).toNat : Int), ((((blks init (padded (ints s))).at (i)).setWidth 8).toNat : Int)]).map (Value.int .u8)) H List.mem_cons_self Tryz.underlying39 (by simp [Value.oneCell'])) Tryz.underlying39 in5 rfl (by simp only [List.length_cons, List.length_nil]; omega) (by decide) rfl rfl rfl ?_; clear S a H; intro Aow7 cow7 ow7 w a how7 H S; replace H := H.tail
      rw [show (((outb (blks init (padded (ints s)))).take (4 * i)) ++ [(((((blks init (padded (ints s))).at (i)) >>> 24).setWidth 8).toNat : Int), (((((blks init (padded (ints s))).at (i)) >>> 16).setWidth 8).toNat : Int), (((((blks init (padded (ints s))).at (i)) >>> 8).setWidth 8).toNat : Int), ((((blks init (padded (ints s))).at (i)).setWidth 8).toNat : Int)]) = (outb (blks init (padded (ints s)))).take (4 * (i + 1)) from out_step (blks init (padded (ints s))) (by omega)] at S how7
      have hnext := how7
      refine l_pure S (p_assign rfl) rfl rfl rfl ?_; clear S a; intro a S
      refine l_nil ?_
      refine e_in 3 ?_
      refine e_then ?_
      refine c_region ?_
      refine l_pure S (p_add rfl rfl (nat_add (x := i) (y := 1) (by omega))) rfl rfl rfl ?_; clear S a; intro a S
      refine l_pure S (p_move rfl) rfl rfl rfl ?_; clear S a; intro a S
      refine l_nil ?_
      refine e_then ?_
      exact ⟨⟨i + 1, Aow7, cow7, ow7⟩, ⟨S.only ⟨rfl, rfl, rfl, trivial⟩, H, ⟨by omega, hnext⟩⟩, by show 5 - (i + 1) < 5 - i; omega⟩
    · skip
      have c5 := of_decide_eq_false c5
      refine wp_exit ?_
      refine e_then_exit ?_
      refine e_then_exit ?_
      refine e_in_exit ?_
      refine e_then ?_
      refine wp_seq ?_
      refine c_region ?_
      refine l_pure S (p_move rfl) rfl rfl rfl ?_; clear S a; intro a S
      obtain rfl : i = 5 := by omega
      rw [show (outb (blks init (padded (ints s)))).take (4 * 5) = outb (blks init (padded (ints s))) from rfl] at S hi
      refine l_read S H (r_str (l := outb (blks init (padded (ints s)))) rfl Tryz.underlying39 Tryz.underlying5 Tryz.underlying9 (fun w H => Own.bytes hi H (show 20 ≤ 9223372036854775807 by decide))) rfl rfl rfl ?_; clear S a; intro a S
      refine l_pure S (p_assign rfl) rfl rfl rfl ?_; clear S a; intro a S
      refine l_nil ?_
      refine e_then ?_
      refine wp_ret ?_
      exact r_ret1 S rfl rfl ⟨rfl, H.below⟩
end Go.Proofs.YtnmelglnkefjfaaGreatDoor.sha
