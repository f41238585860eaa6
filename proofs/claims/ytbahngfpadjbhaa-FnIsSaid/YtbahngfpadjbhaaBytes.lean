/- The sets of bytes that the decoder asks. -/
import Derived.Test.YtbahngfpadjbhaaBs
import Derived.Test.YtbahngfpadjbhaaProg
namespace Go.Proofs.Ytbahngfpadjbhaa.bytes
open Go.RowKit Go.Proofs.HHW Go.Proofs.YtbahngfpadjbhaaW.PrintWords
set_option linter.unusedVariables false
set_option linter.unusedSimpArgs false
theorem ag4 : aggB Try.prog 4 = some false := by kernel_rfl
theorem sz4 : szB Try.prog 4 = some 1 := by kernel_rfl
theorem zvA : zvB Try.prog 32 = some (.agg (vec (fun _ => false)).toArray) := by kernel_rfl
theorem szA : szB Try.prog 32 = some 256 := by kernel_rfl
theorem agA : aggB Try.prog 32 = some true := by kernel_rfl
theorem bset (B : Nat) (wB w0 : World) (L : List (Nat × Obj)) (g x : Nat) (p : Nat → Bool) (hx : x < 256) (H : HH B wB w0 ((g, .cells (vec p).toArray 32 (0, 0)) :: L)) : Calls Try.prog 30 #[.pointer (some ⟨g, 0, none⟩), .int .u8 (x : Int)] w0 fun e w' => e = .returned (.tuple #[]) ∧ HH B wB w' ((g, .cells (vec (fun j => if j = x then true else p j)).toArray 32 (0, 0)) :: L) := by
  refine c_enter (args := [.pointer (some ⟨g, 0, none⟩), .int .u8 (x : Int)]) (k := 6) Try.func30 rfl rfl rfl (fun a S => ?_)
  refine c_region ?_
  refine l_pure S (p_move rfl) rfl rfl rfl ?_; clear S a; intro a S
  refine l_pure S (p_move rfl) rfl rfl rfl ?_; clear S a; intro a S
  refine l_pure S (p_nilCheck rfl) rfl rfl rfl ?_; clear S a; intro a S
  refine l_pure S (p_indexAddr rfl rfl (fun w => ia_array Try.underlying32 sz4 (by omega) (by omega))) rfl rfl rfl ?_; clear S a; intro a S
  refine l_store S H rfl rfl rfl .here (by simp [vec_len]; omega) (fun w u hc hz => st1 sz4 rfl hc hz) rfl rfl ?_; clear S a H; intro w a H S
  have e0 : 0 + (x : Int).toNat * 1 = x := by omega
  rw [e0, vec_set] at H
  refine l_nil ?_
  exact r_end0 S rfl ⟨rfl, H⟩
theorem bnew (s : ByteArray) (w0 : World) (hs : s.size ≤ 1000000) : Calls Try.prog 25 #[.string s] w0 fun e w' => ∃ g, e = .returned (.pointer (some ⟨g, 0, none⟩)) ∧ BS w' g (ofs s) ∧ Below w0.heap.size w0 w' := by
  have H := HH.start w0
  refine c_enter (args := [.string s]) (k := 14) Try.func25 rfl rfl rfl (fun a S => ?_)
  refine wp_seq ?_
  refine c_region ?_
  refine l_pure S (p_assign rfl) rfl rfl rfl ?_; clear S a; intro a S
  refine l_nil ?_
  refine e_then ?_
  refine wp_seq ?_
  refine c_region ?_
  refine l_alloc (cs := _) S H rfl (fun w => al zvA) rfl rfl rfl ?_; clear S a H; intro g1 w a H S
  refine l_nil ?_
  refine e_then ?_
  refine wp_seq ?_
  refine wp_seq ?_
  refine c_region ?_
  refine l_pure S (p_assign rfl) rfl rfl rfl ?_; clear S a; intro a S
  refine l_nil ?_
  refine e_then ?_
  refine wp_block ?_
  rw [show (Value.agg (vec (fun _ => false)).toArray).cells = (vec (inp (ints s) 0)).toArray by rw [inp_zero]; rfl] at H
  refine c_loop (σ := Nat) (fun s_ a w => match s_ with | i => SL a 15 [] [(0, .string s), (3, .pointer (some ⟨g1, 0, none⟩)), (4, .int .i64 (i : Int))] ∧ HH (w0.heap.size) w0 w [(g1, .cells (vec (inp (ints s) i)).toArray 32 (0, 0))] ∧ (i ≤ s.size)) (fun s_ => match s_ with | i => s.size - i) 0 ⟨S.only ⟨rfl, rfl, rfl, trivial⟩, H, Nat.zero_le _⟩ ?_
  clear S a H; rintro i a w ⟨S, H, hinv⟩
  have hbt := HHW.bt_range s (i : Int)
  refine wp_seq ?_
  refine wp_seq ?_
  refine c_region ?_
  refine l_pure S (p_move rfl) rfl rfl rfl ?_; clear S a; intro a S
  refine l_pure S (p_move rfl) rfl rfl rfl ?_; clear S a; intro a S
  refine l_pure S (p_builtin (xs := [_]) rfl (fun _ _ _ => rfl)) rfl rfl rfl ?_; clear S a; intro a S
  refine l_pure S (p_lss rfl rfl) rfl rfl rfl ?_; clear S a; intro a S
  refine l_nil ?_
  refine e_then ?_
  refine c_cond S rfl (fun c3 => ?_) (fun c3 => ?_)
  · skip
    have c3 := of_decide_eq_true c3
    refine wp_skip ?_
    refine e_then ?_
    refine wp_seq ?_
    refine wp_block ?_
    refine c_region ?_
    refine l_pure S (p_move rfl) rfl rfl rfl ?_; clear S a; intro a S
    refine l_pure S (p_move rfl) rfl rfl rfl ?_; clear S a; intro a S
    refine l_pure S (p_index rfl rfl (fun w => ix_string Try.underlying9 (by omega) (by omega))) rfl rfl rfl ?_; clear S a; intro a S
    have hi : i < s.size := by omega
    have ebt : ((HHW.bt s (i : Int)).toNat : Int) = HHW.bt s (i : Int) := by omega
    rw [← ebt] at S
    refine l_call S rfl rfl Try.func30 rfl rfl (bset _ _ _ _ _ (HHW.bt s (i : Int)).toNat _ (by omega) H) rfl rfl rfl ?_
    rintro e w ⟨rfl, H⟩
    refine ⟨_, rfl, ?_⟩; clear S a; intro a S
    rw [inp_succ (ints_bt s hi)] at H
    refine l_nil ?_
    refine e_in 1 ?_
    refine e_then ?_
    refine c_region ?_
    refine l_pure S (p_move rfl) rfl rfl rfl ?_; clear S a; intro a S
    refine l_pure S (p_add (r := _) rfl rfl (IntWalk.i64_in _ (by omega))) rfl rfl rfl ?_; clear S a; intro a S
    refine l_pure S (p_assign rfl) rfl rfl rfl ?_; clear S a; intro a S
    refine l_nil ?_
    refine e_then ?_
    exact ⟨(i + 1), ⟨S.only ⟨rfl, rfl, rfl, trivial⟩, H, by omega⟩, by show s.size - (i + 1) < s.size - i; omega⟩
  · skip
    have c3 := of_decide_eq_false c3
    refine wp_exit ?_
    refine e_then_exit ?_
    refine e_then_exit ?_
    refine e_in_exit ?_
    refine e_then ?_
    refine wp_seq ?_
    refine c_region ?_
    refine l_pure S (p_assign rfl) rfl rfl rfl ?_; clear S a; intro a S
    refine l_nil ?_
    refine e_then ?_
    refine wp_ret ?_
    rw [inp_all s (by omega)] at H
    exact r_ret1 S rfl rfl ⟨g1, rfl, BS.of H List.mem_cons_self, H.below⟩
theorem brange (w0 : World) : Calls Try.prog 28 #[.int .u8 0, .int .u8 31] w0 fun e w' => ∃ g, e = .returned (.pointer (some ⟨g, 0, none⟩)) ∧ BS w' g (upto 32 (fun _ => true) (fun _ => false)) ∧ Below w0.heap.size w0 w' := by
  have H := HH.start w0
  refine c_enter (args := [.int .u8 0, .int .u8 31]) (k := 13) Try.func28 rfl rfl rfl (fun a S => ?_)
  refine wp_seq ?_
  refine c_region ?_
  refine l_pure S (p_assign rfl) rfl rfl rfl ?_; clear S a; intro a S
  refine l_nil ?_
  refine e_then ?_
  refine wp_seq ?_
  refine c_region ?_
  refine l_alloc (cs := _) S H rfl (fun w => al zvA) rfl rfl rfl ?_; clear S a H; intro g1 w a H S
  refine l_nil ?_
  refine e_then ?_
  refine wp_seq ?_
  refine wp_seq ?_
  refine c_region ?_
  refine l_pure S (p_move rfl) rfl rfl rfl ?_; clear S a; intro a S
  refine l_pure S (p_assign rfl) rfl rfl rfl ?_; clear S a; intro a S
  refine l_nil ?_
  refine e_then ?_
  refine wp_block ?_
  rw [show (Value.agg (vec (fun _ => false)).toArray).cells = (vec (upto 0 (fun _ => true) (fun _ => false))).toArray by rw [upto_zero]; rfl] at H
  refine c_loop (σ := Nat) (fun s_ a w => match s_ with | i => SL a 15 [] [(1, .int .u8 31), (5, .pointer (some ⟨g1, 0, none⟩)), (6, .int .u8 (i : Int))] ∧ HH (w0.heap.size) w0 w [(g1, .cells (vec (upto i (fun _ => true) (fun _ => false))).toArray 32 (0, 0))] ∧ (i ≤ 32)) (fun s_ => match s_ with | i => 32 - i) 0 ⟨S.only ⟨rfl, rfl, rfl, trivial⟩, H, Nat.zero_le _⟩ ?_
  clear S a H; rintro i a w ⟨S, H, hinv⟩
  refine wp_seq ?_
  refine wp_seq ?_
  refine c_region ?_
  refine l_pure S (p_move rfl) rfl rfl rfl ?_; clear S a; intro a S
  refine l_pure S (p_move rfl) rfl rfl rfl ?_; clear S a; intro a S
  refine l_pure S (p_leq rfl rfl) rfl rfl rfl ?_; clear S a; intro a S
  refine l_nil ?_
  refine e_then ?_
  refine c_cond S rfl (fun c3 => ?_) (fun c3 => ?_)
  · skip
    have c3 := of_decide_eq_true c3
    refine wp_skip ?_
    refine e_then ?_
    refine wp_seq ?_
    refine wp_block ?_
    refine c_region ?_
    refine l_pure S (p_move rfl) rfl rfl rfl ?_; clear S a; intro a S
    refine l_call S rfl rfl Try.func30 rfl rfl (bset _ _ _ _ _ i _ (by omega) H) rfl rfl rfl ?_
    rintro e w ⟨rfl, H⟩
    refine ⟨_, rfl, ?_⟩; clear S a; intro a S
    rw [upto_succ i (fun _ => true) (fun _ => false) (v := true) rfl] at H
    refine l_nil ?_
    refine e_in 1 ?_
    refine e_then ?_
    refine c_region ?_
    refine l_pure S (p_move rfl) rfl rfl rfl ?_; clear S a; intro a S
    refine l_pure S (p_add (r := _) rfl rfl (IntWalk.u8_in _ (by omega))) rfl rfl rfl ?_; clear S a; intro a S
    refine l_pure S (p_assign rfl) rfl rfl rfl ?_; clear S a; intro a S
    refine l_nil ?_
    refine e_then ?_
    exact ⟨(i + 1), ⟨S.only ⟨rfl, rfl, rfl, trivial⟩, H, by omega⟩, by show 32 - (i + 1) < 32 - i; omega⟩
  · skip
    have c3 := of_decide_eq_false c3
    refine wp_exit ?_
    refine e_then_exit ?_
    refine e_then_exit ?_
    refine e_in_exit ?_
    refine e_then ?_
    refine wp_seq ?_
    refine c_region ?_
    refine l_pure S (p_assign rfl) rfl rfl rfl ?_; clear S a; intro a S
    refine l_nil ?_
    refine e_then ?_
    refine wp_ret ?_
    have ei : i = 32 := by omega
    subst ei
    exact r_ret1 S rfl rfl ⟨g1, rfl, BS.of H List.mem_cons_self, H.below⟩
theorem bunion (gp gq : Nat) (p q : Nat → Bool) (w0 : World) (hp : BS w0 gp p) (hq : BS w0 gq q) : Calls Try.prog 26 #[.pointer (some ⟨gp, 0, none⟩), .pointer (some ⟨gq, 0, none⟩)] w0 fun e w' => ∃ g, e = .returned (.pointer (some ⟨g, 0, none⟩)) ∧ BS w' g (bOr p q) ∧ Below w0.heap.size w0 w' := by
  have H := HH.start w0
  refine c_enter (args := [.pointer (some ⟨gp, 0, none⟩), .pointer (some ⟨gq, 0, none⟩)]) (k := 24) Try.func26 rfl rfl rfl (fun a S => ?_)
  refine wp_seq ?_
  refine c_region ?_
  refine l_pure S (p_assign rfl) rfl rfl rfl ?_; clear S a; intro a S
  refine l_nil ?_
  refine e_then ?_
  refine wp_seq ?_
  refine c_region ?_
  refine l_pure S (p_move rfl) rfl rfl rfl ?_; clear S a; intro a S
  refine l_pure S (p_nilCheck rfl) rfl rfl rfl ?_; clear S a; intro a S
  refine l_read S H (r_set rfl agA szA hp rfl) rfl rfl rfl ?_; clear S a; intro a S
  refine l_alloc (cs := _) S H rfl (fun w => al zvA) rfl rfl rfl ?_; clear S a H; intro g1 w a H S
  refine l_storeAll S H rfl rfl rfl (by rw [szA, vec_len]) .here (by simp [Value.cells, vec_len]) (vec_one p) rfl rfl ?_; clear S a H; intro w a H S
  refine l_nil ?_
  refine e_then ?_
  refine wp_seq ?_
  refine wp_seq ?_
  refine c_region ?_
  refine l_pure S (p_move rfl) rfl rfl rfl ?_; clear S a; intro a S
  refine l_nil ?_
  refine e_then ?_
  refine wp_block ?_
  rw [show vec p = vec (upto 0 (bOr p q) p) by rw [upto_zero]] at H
  refine c_loop (σ := Nat) (fun s_ a w => match s_ with | i => SL a 26 [] [(1, .pointer (some ⟨gq, 0, none⟩)), (5, .pointer (some ⟨g1, 0, none⟩)), (10, .int .i64 (i : Int))] ∧ HH (w0.heap.size) w0 w [(g1, .cells (vec (upto i (bOr p q) p)).toArray 32 (0, 0))] ∧ (i ≤ 256)) (fun s_ => match s_ with | i => 256 - i) 0 ⟨S.only ⟨rfl, rfl, rfl, trivial⟩, H, Nat.zero_le _⟩ ?_
  clear S a H; rintro i a w ⟨S, H, hinv⟩
  refine wp_seq ?_
  refine c_region ?_
  refine l_pure S (p_lss rfl rfl) rfl rfl rfl ?_; clear S a; intro a S
  refine l_nil ?_
  refine e_then ?_
  refine wp_seq ?_
  refine c_cond S rfl (fun c3 => ?_) (fun c3 => ?_)
  · skip
    have c3 := of_decide_eq_true c3
    refine wp_skip ?_
    refine e_then ?_
    refine wp_seq ?_
    refine wp_block ?_
    refine wp_seq ?_
    refine c_region ?_
    refine l_pure S (p_move rfl) rfl rfl rfl ?_; clear S a; intro a S
    refine l_pure S (p_assign rfl) rfl rfl rfl ?_; clear S a; intro a S
    refine l_nil ?_
    refine e_then ?_
    refine c_region ?_
    refine l_pure S (p_move rfl) rfl rfl rfl ?_; clear S a; intro a S
    refine l_pure S (p_move rfl) rfl rfl rfl ?_; clear S a; intro a S
    refine l_pure S (p_indexAddr rfl rfl (fun w => ia_array Try.underlying32 sz4 (by omega) (by omega))) rfl rfl rfl ?_; clear S a; intro a S
    refine l_read S H (r_load (v := .bool (p i)) rfl List.mem_cons_self (vec_arr (upto i (bOr p q) p) (by omega) (upto_at i _ _)) (fun w hc => ld1 ag4 hc)) rfl rfl rfl ?_; clear S a; intro a S
    refine l_pure S (p_move rfl) rfl rfl rfl ?_; clear S a; intro a S
    refine l_split (S.of 17 rfl) (fun bc5 => ?_) (fun bc5 => ?_)
    · skip
      refine l_off S rfl rfl rfl rfl bc5 rfl rfl ?_; clear S a; intro a S
      refine l_off S rfl rfl rfl rfl bc5 rfl rfl ?_; clear S a; intro a S
      refine l_off S rfl rfl rfl rfl bc5 rfl rfl ?_; clear S a; intro a S
      refine l_off S rfl rfl rfl rfl bc5 rfl rfl ?_; clear S a; intro a S
      refine l_off S rfl rfl rfl rfl bc5 rfl rfl ?_; clear S a; intro a S
      refine l_pure S (p_pick_t rfl bc5 rfl) rfl rfl rfl ?_; clear S a; intro a S
      refine l_pure S (p_indexAddr rfl rfl (fun w => ia_array Try.underlying32 sz4 (by omega) (by omega))) rfl rfl rfl ?_; clear S a; intro a S
      refine l_store S H rfl rfl rfl .here (by simp [vec_len]; omega) (fun w u hc hz => st1 sz4 rfl hc hz) rfl rfl ?_; clear S a H; intro w a H S
      have e0 : 0 + (i : Int).toNat * 1 = i := by omega
      rw [e0, vec_set, upto_succ i (bOr p q) p (by simp_all [bOr, bAnd, bNot])] at H
      refine l_nil ?_
      refine e_in 1 ?_
      refine e_then ?_
      refine c_region ?_
      refine l_pure S (p_add (r := _) rfl rfl (IntWalk.i64_in _ (by omega))) rfl rfl rfl ?_; clear S a; intro a S
      refine l_pure S (p_move rfl) rfl rfl rfl ?_; clear S a; intro a S
      refine l_nil ?_
      refine e_then ?_
      exact ⟨(i + 1), ⟨S.only ⟨rfl, rfl, rfl, trivial⟩, H, by omega⟩, by show 256 - (i + 1) < 256 - i; omega⟩
    · skip
      refine l_on S rfl rfl rfl rfl bc5 ?_
      refine l_pure S (p_move rfl) rfl rfl rfl ?_; clear S a; intro a S
      refine l_on S rfl rfl rfl rfl bc5 ?_
      refine l_pure S (p_move rfl) rfl rfl rfl ?_; clear S a; intro a S
      refine l_on S rfl rfl rfl rfl bc5 ?_
      refine l_pure S (p_nilCheck rfl) rfl rfl rfl ?_; clear S a; intro a S
      refine l_on S rfl rfl rfl rfl bc5 ?_
      refine l_pure S (p_indexAddr rfl rfl (fun w => ia_array Try.underlying32 sz4 (by omega) (by omega))) rfl rfl rfl ?_; clear S a; intro a S
      refine l_on S rfl rfl rfl rfl bc5 ?_
      refine l_read S H (r_bit (i := i) rfl (by omega) (by omega) ag4 hq rfl) rfl rfl rfl ?_; clear S a; intro a S
      refine l_pure S (p_pick_f rfl bc5 rfl) rfl rfl rfl ?_; clear S a; intro a S
      refine l_pure S (p_indexAddr rfl rfl (fun w => ia_array Try.underlying32 sz4 (by omega) (by omega))) rfl rfl rfl ?_; clear S a; intro a S
      refine l_store S H rfl rfl rfl .here (by simp [vec_len]; omega) (fun w u hc hz => st1 sz4 rfl hc hz) rfl rfl ?_; clear S a H; intro w a H S
      have e0 : 0 + (i : Int).toNat * 1 = i := by omega
      rw [e0, vec_set, upto_succ i (bOr p q) p (by simp_all [bOr, bAnd, bNot])] at H
      refine l_nil ?_
      refine e_in 1 ?_
      refine e_then ?_
      refine c_region ?_
      refine l_pure S (p_add (r := _) rfl rfl (IntWalk.i64_in _ (by omega))) rfl rfl rfl ?_; clear S a; intro a S
      refine l_pure S (p_move rfl) rfl rfl rfl ?_; clear S a; intro a S
      refine l_nil ?_
      refine e_then ?_
      exact ⟨(i + 1), ⟨S.only ⟨rfl, rfl, rfl, trivial⟩, H, by omega⟩, by show 256 - (i + 1) < 256 - i; omega⟩
  · skip
    have c3 := of_decide_eq_false c3
    refine wp_exit ?_
    refine e_then_exit ?_
    refine e_then_exit ?_
    refine e_in_exit ?_
    refine e_then ?_
    refine wp_seq ?_
    refine c_region ?_
    refine l_pure S (p_assign rfl) rfl rfl rfl ?_; clear S a; intro a S
    refine l_nil ?_
    refine e_then ?_
    refine wp_ret ?_
    exact r_ret1 S rfl rfl ⟨g1, rfl, (BS.of H List.mem_cons_self).ext (fun j hj => by simp [upto, show j < i by omega]), H.below⟩
theorem binter (gp gq : Nat) (p q : Nat → Bool) (w0 : World) (hp : BS w0 gp p) (hq : BS w0 gq q) : Calls Try.prog 31 #[.pointer (some ⟨gp, 0, none⟩), .pointer (some ⟨gq, 0, none⟩)] w0 fun e w' => ∃ g, e = .returned (.pointer (some ⟨g, 0, none⟩)) ∧ BS w' g (bAnd p q) ∧ Below w0.heap.size w0 w' := by
  have H := HH.start w0
  refine c_enter (args := [.pointer (some ⟨gp, 0, none⟩), .pointer (some ⟨gq, 0, none⟩)]) (k := 24) Try.func31 rfl rfl rfl (fun a S => ?_)
  refine wp_seq ?_
  refine c_region ?_
  refine l_pure S (p_assign rfl) rfl rfl rfl ?_; clear S a; intro a S
  refine l_nil ?_
  refine e_then ?_
  refine wp_seq ?_
  refine c_region ?_
  refine l_pure S (p_move rfl) rfl rfl rfl ?_; clear S a; intro a S
  refine l_pure S (p_nilCheck rfl) rfl rfl rfl ?_; clear S a; intro a S
  refine l_read S H (r_set rfl agA szA hp rfl) rfl rfl rfl ?_; clear S a; intro a S
  refine l_alloc (cs := _) S H rfl (fun w => al zvA) rfl rfl rfl ?_; clear S a H; intro g1 w a H S
  refine l_storeAll S H rfl rfl rfl (by rw [szA, vec_len]) .here (by simp [Value.cells, vec_len]) (vec_one p) rfl rfl ?_; clear S a H; intro w a H S
  refine l_nil ?_
  refine e_then ?_
  refine wp_seq ?_
  refine wp_seq ?_
  refine c_region ?_
  refine l_pure S (p_move rfl) rfl rfl rfl ?_; clear S a; intro a S
  refine l_nil ?_
  refine e_then ?_
  refine wp_block ?_
  rw [show vec p = vec (upto 0 (bAnd p q) p) by rw [upto_zero]] at H
  refine c_loop (σ := Nat) (fun s_ a w => match s_ with | i => SL a 26 [] [(1, .pointer (some ⟨gq, 0, none⟩)), (5, .pointer (some ⟨g1, 0, none⟩)), (10, .int .i64 (i : Int))] ∧ HH (w0.heap.size) w0 w [(g1, .cells (vec (upto i (bAnd p q) p)).toArray 32 (0, 0))] ∧ (i ≤ 256)) (fun s_ => match s_ with | i => 256 - i) 0 ⟨S.only ⟨rfl, rfl, rfl, trivial⟩, H, Nat.zero_le _⟩ ?_
  clear S a H; rintro i a w ⟨S, H, hinv⟩
  refine wp_seq ?_
  refine c_region ?_
  refine l_pure S (p_lss rfl rfl) rfl rfl rfl ?_; clear S a; intro a S
  refine l_nil ?_
  refine e_then ?_
  refine wp_seq ?_
  refine c_cond S rfl (fun c3 => ?_) (fun c3 => ?_)
  · skip
    have c3 := of_decide_eq_true c3
    refine wp_skip ?_
    refine e_then ?_
    refine wp_seq ?_
    refine wp_block ?_
    refine wp_seq ?_
    refine c_region ?_
    refine l_pure S (p_move rfl) rfl rfl rfl ?_; clear S a; intro a S
    refine l_pure S (p_assign rfl) rfl rfl rfl ?_; clear S a; intro a S
    refine l_nil ?_
    refine e_then ?_
    refine c_region ?_
    refine l_pure S (p_move rfl) rfl rfl rfl ?_; clear S a; intro a S
    refine l_pure S (p_move rfl) rfl rfl rfl ?_; clear S a; intro a S
    refine l_pure S (p_indexAddr rfl rfl (fun w => ia_array Try.underlying32 sz4 (by omega) (by omega))) rfl rfl rfl ?_; clear S a; intro a S
    refine l_read S H (r_load (v := .bool (p i)) rfl List.mem_cons_self (vec_arr (upto i (bAnd p q) p) (by omega) (upto_at i _ _)) (fun w hc => ld1 ag4 hc)) rfl rfl rfl ?_; clear S a; intro a S
    refine l_pure S (p_move rfl) rfl rfl rfl ?_; clear S a; intro a S
    refine l_split (S.of 17 rfl) (fun bc5 => ?_) (fun bc5 => ?_)
    · skip
      refine l_on S rfl rfl rfl rfl bc5 ?_
      refine l_pure S (p_move rfl) rfl rfl rfl ?_; clear S a; intro a S
      refine l_on S rfl rfl rfl rfl bc5 ?_
      refine l_pure S (p_move rfl) rfl rfl rfl ?_; clear S a; intro a S
      refine l_on S rfl rfl rfl rfl bc5 ?_
      refine l_pure S (p_nilCheck rfl) rfl rfl rfl ?_; clear S a; intro a S
      refine l_on S rfl rfl rfl rfl bc5 ?_
      refine l_pure S (p_indexAddr rfl rfl (fun w => ia_array Try.underlying32 sz4 (by omega) (by omega))) rfl rfl rfl ?_; clear S a; intro a S
      refine l_on S rfl rfl rfl rfl bc5 ?_
      refine l_read S H (r_bit (i := i) rfl (by omega) (by omega) ag4 hq rfl) rfl rfl rfl ?_; clear S a; intro a S
      refine l_pure S (p_pick_t rfl bc5 rfl) rfl rfl rfl ?_; clear S a; intro a S
      refine l_pure S (p_indexAddr rfl rfl (fun w => ia_array Try.underlying32 sz4 (by omega) (by omega))) rfl rfl rfl ?_; clear S a; intro a S
      refine l_store S H rfl rfl rfl .here (by simp [vec_len]; omega) (fun w u hc hz => st1 sz4 rfl hc hz) rfl rfl ?_; clear S a H; intro w a H S
      have e0 : 0 + (i : Int).toNat * 1 = i := by omega
      rw [e0, vec_set, upto_succ i (bAnd p q) p (by simp_all [bOr, bAnd, bNot])] at H
      refine l_nil ?_
      refine e_in 1 ?_
      refine e_then ?_
      refine c_region ?_
      refine l_pure S (p_add (r := _) rfl rfl (IntWalk.i64_in _ (by omega))) rfl rfl rfl ?_; clear S a; intro a S
      refine l_pure S (p_move rfl) rfl rfl rfl ?_; clear S a; intro a S
      refine l_nil ?_
      refine e_then ?_
      exact ⟨(i + 1), ⟨S.only ⟨rfl, rfl, rfl, trivial⟩, H, by omega⟩, by show 256 - (i + 1) < 256 - i; omega⟩
    · skip
      refine l_off S rfl rfl rfl rfl bc5 rfl rfl ?_; clear S a; intro a S
      refine l_off S rfl rfl rfl rfl bc5 rfl rfl ?_; clear S a; intro a S
      refine l_off S rfl rfl rfl rfl bc5 rfl rfl ?_; clear S a; intro a S
      refine l_off S rfl rfl rfl rfl bc5 rfl rfl ?_; clear S a; intro a S
      refine l_off S rfl rfl rfl rfl bc5 rfl rfl ?_; clear S a; intro a S
      refine l_pure S (p_pick_f rfl bc5 rfl) rfl rfl rfl ?_; clear S a; intro a S
      refine l_pure S (p_indexAddr rfl rfl (fun w => ia_array Try.underlying32 sz4 (by omega) (by omega))) rfl rfl rfl ?_; clear S a; intro a S
      refine l_store S H rfl rfl rfl .here (by simp [vec_len]; omega) (fun w u hc hz => st1 sz4 rfl hc hz) rfl rfl ?_; clear S a H; intro w a H S
      have e0 : 0 + (i : Int).toNat * 1 = i := by omega
      rw [e0, vec_set, upto_succ i (bAnd p q) p (by simp_all [bOr, bAnd, bNot])] at H
      refine l_nil ?_
      refine e_in 1 ?_
      refine e_then ?_
      refine c_region ?_
      refine l_pure S (p_add (r := _) rfl rfl (IntWalk.i64_in _ (by omega))) rfl rfl rfl ?_; clear S a; intro a S
      refine l_pure S (p_move rfl) rfl rfl rfl ?_; clear S a; intro a S
      refine l_nil ?_
      refine e_then ?_
      exact ⟨(i + 1), ⟨S.only ⟨rfl, rfl, rfl, trivial⟩, H, by omega⟩, by show 256 - (i + 1) < 256 - i; omega⟩
  · skip
    have c3 := of_decide_eq_false c3
    refine wp_exit ?_
    refine e_then_exit ?_
    refine e_then_exit ?_
    refine e_in_exit ?_
    refine e_then ?_
    refine wp_seq ?_
    refine c_region ?_
    refine l_pure S (p_assign rfl) rfl rfl rfl ?_; clear S a; intro a S
    refine l_nil ?_
    refine e_then ?_
    refine wp_ret ?_
    exact r_ret1 S rfl rfl ⟨g1, rfl, (BS.of H List.mem_cons_self).ext (fun j hj => by simp [upto, show j < i by omega]), H.below⟩
theorem binv (gp : Nat) (p : Nat → Bool) (w0 : World) (hp : BS w0 gp p) : Calls Try.prog 27 #[.pointer (some ⟨gp, 0, none⟩)] w0 fun e w' => ∃ g, e = .returned (.pointer (some ⟨g, 0, none⟩)) ∧ BS w' g (bNot p) ∧ Below w0.heap.size w0 w' := by
  have H := HH.start w0
  refine c_enter (args := [.pointer (some ⟨gp, 0, none⟩)]) (k := 17) Try.func27 rfl rfl rfl (fun a S => ?_)
  refine wp_seq ?_
  refine c_region ?_
  refine l_pure S (p_assign rfl) rfl rfl rfl ?_; clear S a; intro a S
  refine l_nil ?_
  refine e_then ?_
  refine wp_seq ?_
  refine c_region ?_
  refine l_pure S (p_move rfl) rfl rfl rfl ?_; clear S a; intro a S
  refine l_pure S (p_nilCheck rfl) rfl rfl rfl ?_; clear S a; intro a S
  refine l_read S H (r_set rfl agA szA hp rfl) rfl rfl rfl ?_; clear S a; intro a S
  refine l_alloc (cs := _) S H rfl (fun w => al zvA) rfl rfl rfl ?_; clear S a H; intro g1 w a H S
  refine l_storeAll S H rfl rfl rfl (by rw [szA, vec_len]) .here (by simp [Value.cells, vec_len]) (vec_one p) rfl rfl ?_; clear S a H; intro w a H S
  refine l_nil ?_
  refine e_then ?_
  refine wp_seq ?_
  refine wp_seq ?_
  refine c_region ?_
  refine l_pure S (p_move rfl) rfl rfl rfl ?_; clear S a; intro a S
  refine l_nil ?_
  refine e_then ?_
  refine wp_block ?_
  rw [show vec p = vec (upto 0 (bNot p) p) by rw [upto_zero]] at H
  refine c_loop (σ := Nat) (fun s_ a w => match s_ with | i => SL a 18 [] [(3, .pointer (some ⟨g1, 0, none⟩)), (8, .int .i64 (i : Int))] ∧ HH (w0.heap.size) w0 w [(g1, .cells (vec (upto i (bNot p) p)).toArray 32 (0, 0))] ∧ (i ≤ 256)) (fun s_ => match s_ with | i => 256 - i) 0 ⟨S.only ⟨rfl, rfl, trivial⟩, H, Nat.zero_le _⟩ ?_
  clear S a H; rintro i a w ⟨S, H, hinv⟩
  refine wp_seq ?_
  refine c_region ?_
  refine l_pure S (p_lss rfl rfl) rfl rfl rfl ?_; clear S a; intro a S
  refine l_nil ?_
  refine e_then ?_
  refine wp_seq ?_
  refine c_cond S rfl (fun c3 => ?_) (fun c3 => ?_)
  · skip
    have c3 := of_decide_eq_true c3
    refine wp_skip ?_
    refine e_then ?_
    refine wp_seq ?_
    refine wp_block ?_
    refine wp_seq ?_
    refine c_region ?_
    refine l_pure S (p_move rfl) rfl rfl rfl ?_; clear S a; intro a S
    refine l_pure S (p_assign rfl) rfl rfl rfl ?_; clear S a; intro a S
    refine l_nil ?_
    refine e_then ?_
    refine c_region ?_
    refine l_pure S (p_move rfl) rfl rfl rfl ?_; clear S a; intro a S
    refine l_pure S (p_move rfl) rfl rfl rfl ?_; clear S a; intro a S
    refine l_pure S (p_indexAddr rfl rfl (fun w => ia_array Try.underlying32 sz4 (by omega) (by omega))) rfl rfl rfl ?_; clear S a; intro a S
    refine l_read S H (r_load (v := .bool (p i)) rfl List.mem_cons_self (vec_arr (upto i (bNot p) p) (by omega) (upto_at i _ _)) (fun w hc => ld1 ag4 hc)) rfl rfl rfl ?_; clear S a; intro a S
    refine l_pure S (p_not rfl) rfl rfl rfl ?_; clear S a; intro a S
    refine l_pure S (p_indexAddr rfl rfl (fun w => ia_array Try.underlying32 sz4 (by omega) (by omega))) rfl rfl rfl ?_; clear S a; intro a S
    refine l_store S H rfl rfl rfl .here (by simp [vec_len]; omega) (fun w u hc hz => st1 sz4 rfl hc hz) rfl rfl ?_; clear S a H; intro w a H S
    have e0 : 0 + (i : Int).toNat * 1 = i := by omega
    rw [e0, vec_set, upto_succ i (bNot p) p (by simp_all [bOr, bAnd, bNot])] at H
    refine l_nil ?_
    refine e_in 1 ?_
    refine e_then ?_
    refine c_region ?_
    refine l_pure S (p_add (r := _) rfl rfl (IntWalk.i64_in _ (by omega))) rfl rfl rfl ?_; clear S a; intro a S
    refine l_pure S (p_move rfl) rfl rfl rfl ?_; clear S a; intro a S
    refine l_nil ?_
    refine e_then ?_
    exact ⟨(i + 1), ⟨S.only ⟨rfl, rfl, trivial⟩, H, by omega⟩, by show 256 - (i + 1) < 256 - i; omega⟩
  · skip
    have c3 := of_decide_eq_false c3
    refine wp_exit ?_
    refine e_then_exit ?_
    refine e_then_exit ?_
    refine e_in_exit ?_
    refine e_then ?_
    refine wp_seq ?_
    refine c_region ?_
    refine l_pure S (p_assign rfl) rfl rfl rfl ?_; clear S a; intro a S
    refine l_nil ?_
    refine e_then ?_
    refine wp_ret ?_
    exact r_ret1 S rfl rfl ⟨g1, rfl, (BS.of H List.mem_cons_self).ext (fun j hj => by simp [upto, show j < i by omega]), H.below⟩
theorem bwo (gp gq : Nat) (p q : Nat → Bool) (w0 : World) (hp : BS w0 gp p) (hq : BS w0 gq q) : Calls Try.prog 29 #[.pointer (some ⟨gp, 0, none⟩), .pointer (some ⟨gq, 0, none⟩)] w0 fun e w' => ∃ g, e = .returned (.pointer (some ⟨g, 0, none⟩)) ∧ BS w' g (bAnd p (bNot q)) ∧ Below w0.heap.size w0 w' := by
  have H := HH.start w0
  refine c_enter (args := [.pointer (some ⟨gp, 0, none⟩), .pointer (some ⟨gq, 0, none⟩)]) (k := 7) Try.func29 rfl rfl rfl (fun a S => ?_)
  refine wp_seq ?_
  refine c_region ?_
  refine l_pure S (p_assign rfl) rfl rfl rfl ?_; clear S a; intro a S
  refine l_nil ?_
  refine e_then ?_
  refine wp_seq ?_
  refine c_region ?_
  refine l_pure S (p_move rfl) rfl rfl rfl ?_; clear S a; intro a S
  refine l_pure S (p_move rfl) rfl rfl rfl ?_; clear S a; intro a S
  refine l_call S rfl rfl Try.func27 rfl rfl (binv _ _ _ hq) rfl rfl rfl ?_
  rintro e w ⟨q1, rfl, hbs1, hb⟩
  refine ⟨_, rfl, ?_⟩; clear S a; intro a S
  replace H := H.later hb; replace hp := hp.later hb; clear hb
  refine l_call S rfl rfl Try.func31 rfl rfl (binter _ _ _ _ _ hp hbs1) rfl rfl rfl ?_
  rintro e w ⟨q2, rfl, hbs2, hb⟩
  refine ⟨_, rfl, ?_⟩; clear S a; intro a S
  replace H := H.later hb; replace hp := hp.later hb; replace hbs1 := hbs1.later hb; clear hb
  refine l_pure S (p_assign rfl) rfl rfl rfl ?_; clear S a; intro a S
  refine l_nil ?_
  refine e_then ?_
  refine wp_ret ?_
  exact r_ret1 S rfl rfl ⟨_, rfl, hbs2, H.below⟩
def P_fieldSeparatorSpace : Nat → Bool := ofs ⟨#[32]⟩
theorem b_fieldSeparatorSpace (w0 : World) : Calls Try.prog 11 #[] w0 fun e w' => ∃ g, e = .returned (.pointer (some ⟨g, 0, none⟩)) ∧ BS w' g (P_fieldSeparatorSpace) ∧ Below w0.heap.size w0 w' := by
  have H := HH.start w0
  refine c_enter (args := []) (k := 2) Try.func11 rfl rfl rfl (fun a S => ?_)
  refine wp_seq ?_
  refine c_region ?_
  refine l_pure S (p_assign rfl) rfl rfl rfl ?_; clear S a; intro a S
  refine l_nil ?_
  refine e_then ?_
  refine wp_seq ?_
  refine c_region ?_
  refine l_call S rfl rfl Try.func25 rfl rfl (bnew ⟨#[32]⟩ _ (by decide)) rfl rfl rfl ?_
  rintro e w ⟨q1, rfl, hbs1, hb⟩
  refine ⟨_, rfl, ?_⟩; clear S a; intro a S
  replace H := H.later hb; clear hb
  refine l_pure S (p_assign rfl) rfl rfl rfl ?_; clear S a; intro a S
  refine l_nil ?_
  refine e_then ?_
  refine wp_ret ?_
  exact r_ret1 S rfl rfl ⟨_, rfl, hbs1, H.below⟩
def P_whitespace : Nat → Bool := bOr (P_fieldSeparatorSpace) (ofs ⟨#[13, 10]⟩)
theorem b_whitespace (w0 : World) : Calls Try.prog 12 #[] w0 fun e w' => ∃ g, e = .returned (.pointer (some ⟨g, 0, none⟩)) ∧ BS w' g (P_whitespace) ∧ Below w0.heap.size w0 w' := by
  have H := HH.start w0
  refine c_enter (args := []) (k := 4) Try.func12 rfl rfl rfl (fun a S => ?_)
  refine wp_seq ?_
  refine c_region ?_
  refine l_pure S (p_assign rfl) rfl rfl rfl ?_; clear S a; intro a S
  refine l_nil ?_
  refine e_then ?_
  refine wp_seq ?_
  refine c_region ?_
  refine l_call S rfl rfl Try.func11 rfl rfl (b_fieldSeparatorSpace _) rfl rfl rfl ?_
  rintro e w ⟨q1, rfl, hbs1, hb⟩
  refine ⟨_, rfl, ?_⟩; clear S a; intro a S
  replace H := H.later hb; clear hb
  refine l_call S rfl rfl Try.func25 rfl rfl (bnew ⟨#[13, 10]⟩ _ (by decide)) rfl rfl rfl ?_
  rintro e w ⟨q2, rfl, hbs2, hb⟩
  refine ⟨_, rfl, ?_⟩; clear S a; intro a S
  replace H := H.later hb; replace hbs1 := hbs1.later hb; clear hb
  refine l_call S rfl rfl Try.func26 rfl rfl (bunion _ _ _ _ _ hbs1 hbs2) rfl rfl rfl ?_
  rintro e w ⟨q3, rfl, hbs3, hb⟩
  refine ⟨_, rfl, ?_⟩; clear S a; intro a S
  replace H := H.later hb; replace hbs1 := hbs1.later hb; replace hbs2 := hbs2.later hb; clear hb
  refine l_pure S (p_assign rfl) rfl rfl rfl ?_; clear S a; intro a S
  refine l_nil ?_
  refine e_then ?_
  refine wp_ret ?_
  exact r_ret1 S rfl rfl ⟨_, rfl, hbs3, H.below⟩
def P_nonPrintable : Nat → Bool := bOr (upto 32 (fun _ => true) (fun _ => false)) (ofs ⟨#[127]⟩)
theorem b_nonPrintable (w0 : World) : Calls Try.prog 14 #[] w0 fun e w' => ∃ g, e = .returned (.pointer (some ⟨g, 0, none⟩)) ∧ BS w' g (P_nonPrintable) ∧ Below w0.heap.size w0 w' := by
  have H := HH.start w0
  refine c_enter (args := []) (k := 4) Try.func14 rfl rfl rfl (fun a S => ?_)
  refine wp_seq ?_
  refine c_region ?_
  refine l_pure S (p_assign rfl) rfl rfl rfl ?_; clear S a; intro a S
  refine l_nil ?_
  refine e_then ?_
  refine wp_seq ?_
  refine c_region ?_
  refine l_call S rfl rfl Try.func28 rfl rfl (brange _) rfl rfl rfl ?_
  rintro e w ⟨q1, rfl, hbs1, hb⟩
  refine ⟨_, rfl, ?_⟩; clear S a; intro a S
  replace H := H.later hb; clear hb
  refine l_call S rfl rfl Try.func25 rfl rfl (bnew ⟨#[127]⟩ _ (by decide)) rfl rfl rfl ?_
  rintro e w ⟨q2, rfl, hbs2, hb⟩
  refine ⟨_, rfl, ?_⟩; clear S a; intro a S
  replace H := H.later hb; replace hbs1 := hbs1.later hb; clear hb
  refine l_call S rfl rfl Try.func26 rfl rfl (bunion _ _ _ _ _ hbs1 hbs2) rfl rfl rfl ?_
  rintro e w ⟨q3, rfl, hbs3, hb⟩
  refine ⟨_, rfl, ?_⟩; clear S a; intro a S
  replace H := H.later hb; replace hbs1 := hbs1.later hb; replace hbs2 := hbs2.later hb; clear hb
  refine l_pure S (p_assign rfl) rfl rfl rfl ?_; clear S a; intro a S
  refine l_nil ?_
  refine e_then ?_
  refine wp_ret ?_
  exact r_ret1 S rfl rfl ⟨_, rfl, hbs3, H.below⟩
def P_tagKeyChars : Nat → Bool := bNot (bOr (bOr (ofs ⟨#[44, 61]⟩) (P_whitespace)) (P_nonPrintable))
theorem b_tagKeyChars (w0 : World) : Calls Try.prog 13 #[] w0 fun e w' => ∃ g, e = .returned (.pointer (some ⟨g, 0, none⟩)) ∧ BS w' g (P_tagKeyChars) ∧ Below w0.heap.size w0 w' := by
  have H := HH.start w0
  refine c_enter (args := []) (k := 7) Try.func13 rfl rfl rfl (fun a S => ?_)
  refine wp_seq ?_
  refine c_region ?_
  refine l_pure S (p_assign rfl) rfl rfl rfl ?_; clear S a; intro a S
  refine l_nil ?_
  refine e_then ?_
  refine wp_seq ?_
  refine c_region ?_
  refine l_call S rfl rfl Try.func25 rfl rfl (bnew ⟨#[44, 61]⟩ _ (by decide)) rfl rfl rfl ?_
  rintro e w ⟨q1, rfl, hbs1, hb⟩
  refine ⟨_, rfl, ?_⟩; clear S a; intro a S
  replace H := H.later hb; clear hb
  refine l_call S rfl rfl Try.func12 rfl rfl (b_whitespace _) rfl rfl rfl ?_
  rintro e w ⟨q2, rfl, hbs2, hb⟩
  refine ⟨_, rfl, ?_⟩; clear S a; intro a S
  replace H := H.later hb; replace hbs1 := hbs1.later hb; clear hb
  refine l_call S rfl rfl Try.func26 rfl rfl (bunion _ _ _ _ _ hbs1 hbs2) rfl rfl rfl ?_
  rintro e w ⟨q3, rfl, hbs3, hb⟩
  refine ⟨_, rfl, ?_⟩; clear S a; intro a S
  replace H := H.later hb; replace hbs1 := hbs1.later hb; replace hbs2 := hbs2.later hb; clear hb
  refine l_call S rfl rfl Try.func14 rfl rfl (b_nonPrintable _) rfl rfl rfl ?_
  rintro e w ⟨q4, rfl, hbs4, hb⟩
  refine ⟨_, rfl, ?_⟩; clear S a; intro a S
  replace H := H.later hb; replace hbs1 := hbs1.later hb; replace hbs2 := hbs2.later hb; replace hbs3 := hbs3.later hb; clear hb
  refine l_call S rfl rfl Try.func26 rfl rfl (bunion _ _ _ _ _ hbs3 hbs4) rfl rfl rfl ?_
  rintro e w ⟨q5, rfl, hbs5, hb⟩
  refine ⟨_, rfl, ?_⟩; clear S a; intro a S
  replace H := H.later hb; replace hbs1 := hbs1.later hb; replace hbs2 := hbs2.later hb; replace hbs3 := hbs3.later hb; replace hbs4 := hbs4.later hb; clear hb
  refine l_call S rfl rfl Try.func27 rfl rfl (binv _ _ _ hbs5) rfl rfl rfl ?_
  rintro e w ⟨q6, rfl, hbs6, hb⟩
  refine ⟨_, rfl, ?_⟩; clear S a; intro a S
  replace H := H.later hb; replace hbs1 := hbs1.later hb; replace hbs2 := hbs2.later hb; replace hbs3 := hbs3.later hb; replace hbs4 := hbs4.later hb; replace hbs5 := hbs5.later hb; clear hb
  refine l_pure S (p_assign rfl) rfl rfl rfl ?_; clear S a; intro a S
  refine l_nil ?_
  refine e_then ?_
  refine wp_ret ?_
  exact r_ret1 S rfl rfl ⟨_, rfl, hbs6, H.below⟩
def P_eolChars : Nat → Bool := ofs ⟨#[13, 10]⟩
theorem b_eolChars (w0 : World) : Calls Try.prog 15 #[] w0 fun e w' => ∃ g, e = .returned (.pointer (some ⟨g, 0, none⟩)) ∧ BS w' g (P_eolChars) ∧ Below w0.heap.size w0 w' := by
  have H := HH.start w0
  refine c_enter (args := []) (k := 2) Try.func15 rfl rfl rfl (fun a S => ?_)
  refine wp_seq ?_
  refine c_region ?_
  refine l_pure S (p_assign rfl) rfl rfl rfl ?_; clear S a; intro a S
  refine l_nil ?_
  refine e_then ?_
  refine wp_seq ?_
  refine c_region ?_
  refine l_call S rfl rfl Try.func25 rfl rfl (bnew ⟨#[13, 10]⟩ _ (by decide)) rfl rfl rfl ?_
  rintro e w ⟨q1, rfl, hbs1, hb⟩
  refine ⟨_, rfl, ?_⟩; clear S a; intro a S
  replace H := H.later hb; clear hb
  refine l_pure S (p_assign rfl) rfl rfl rfl ?_; clear S a; intro a S
  refine l_nil ?_
  refine e_then ?_
  refine wp_ret ?_
  exact r_ret1 S rfl rfl ⟨_, rfl, hbs1, H.below⟩
def P_measurementChars : Nat → Bool := bNot (bOr (ofs ⟨#[44, 32]⟩) (P_nonPrintable))
theorem b_measurementChars (w0 : World) : Calls Try.prog 16 #[] w0 fun e w' => ∃ g, e = .returned (.pointer (some ⟨g, 0, none⟩)) ∧ BS w' g (P_measurementChars) ∧ Below w0.heap.size w0 w' := by
  have H := HH.start w0
  refine c_enter (args := []) (k := 5) Try.func16 rfl rfl rfl (fun a S => ?_)
  refine wp_seq ?_
  refine c_region ?_
  refine l_pure S (p_assign rfl) rfl rfl rfl ?_; clear S a; intro a S
  refine l_nil ?_
  refine e_then ?_
  refine wp_seq ?_
  refine c_region ?_
  refine l_call S rfl rfl Try.func25 rfl rfl (bnew ⟨#[44, 32]⟩ _ (by decide)) rfl rfl rfl ?_
  rintro e w ⟨q1, rfl, hbs1, hb⟩
  refine ⟨_, rfl, ?_⟩; clear S a; intro a S
  replace H := H.later hb; clear hb
  refine l_call S rfl rfl Try.func14 rfl rfl (b_nonPrintable _) rfl rfl rfl ?_
  rintro e w ⟨q2, rfl, hbs2, hb⟩
  refine ⟨_, rfl, ?_⟩; clear S a; intro a S
  replace H := H.later hb; replace hbs1 := hbs1.later hb; clear hb
  refine l_call S rfl rfl Try.func26 rfl rfl (bunion _ _ _ _ _ hbs1 hbs2) rfl rfl rfl ?_
  rintro e w ⟨q3, rfl, hbs3, hb⟩
  refine ⟨_, rfl, ?_⟩; clear S a; intro a S
  replace H := H.later hb; replace hbs1 := hbs1.later hb; replace hbs2 := hbs2.later hb; clear hb
  refine l_call S rfl rfl Try.func27 rfl rfl (binv _ _ _ hbs3) rfl rfl rfl ?_
  rintro e w ⟨q4, rfl, hbs4, hb⟩
  refine ⟨_, rfl, ?_⟩; clear S a; intro a S
  replace H := H.later hb; replace hbs1 := hbs1.later hb; replace hbs2 := hbs2.later hb; replace hbs3 := hbs3.later hb; clear hb
  refine l_pure S (p_assign rfl) rfl rfl rfl ?_; clear S a; intro a S
  refine l_nil ?_
  refine e_then ?_
  refine wp_ret ?_
  exact r_ret1 S rfl rfl ⟨_, rfl, hbs4, H.below⟩
def P_tagValChars : Nat → Bool := bNot (bOr (bOr (ofs ⟨#[44, 61]⟩) (P_whitespace)) (P_nonPrintable))
theorem b_tagValChars (w0 : World) : Calls Try.prog 17 #[] w0 fun e w' => ∃ g, e = .returned (.pointer (some ⟨g, 0, none⟩)) ∧ BS w' g (P_tagValChars) ∧ Below w0.heap.size w0 w' := by
  have H := HH.start w0
  refine c_enter (args := []) (k := 7) Try.func17 rfl rfl rfl (fun a S => ?_)
  refine wp_seq ?_
  refine c_region ?_
  refine l_pure S (p_assign rfl) rfl rfl rfl ?_; clear S a; intro a S
  refine l_nil ?_
  refine e_then ?_
  refine wp_seq ?_
  refine c_region ?_
  refine l_call S rfl rfl Try.func25 rfl rfl (bnew ⟨#[44, 61]⟩ _ (by decide)) rfl rfl rfl ?_
  rintro e w ⟨q1, rfl, hbs1, hb⟩
  refine ⟨_, rfl, ?_⟩; clear S a; intro a S
  replace H := H.later hb; clear hb
  refine l_call S rfl rfl Try.func12 rfl rfl (b_whitespace _) rfl rfl rfl ?_
  rintro e w ⟨q2, rfl, hbs2, hb⟩
  refine ⟨_, rfl, ?_⟩; clear S a; intro a S
  replace H := H.later hb; replace hbs1 := hbs1.later hb; clear hb
  refine l_call S rfl rfl Try.func26 rfl rfl (bunion _ _ _ _ _ hbs1 hbs2) rfl rfl rfl ?_
  rintro e w ⟨q3, rfl, hbs3, hb⟩
  refine ⟨_, rfl, ?_⟩; clear S a; intro a S
  replace H := H.later hb; replace hbs1 := hbs1.later hb; replace hbs2 := hbs2.later hb; clear hb
  refine l_call S rfl rfl Try.func14 rfl rfl (b_nonPrintable _) rfl rfl rfl ?_
  rintro e w ⟨q4, rfl, hbs4, hb⟩
  refine ⟨_, rfl, ?_⟩; clear S a; intro a S
  replace H := H.later hb; replace hbs1 := hbs1.later hb; replace hbs2 := hbs2.later hb; replace hbs3 := hbs3.later hb; clear hb
  refine l_call S rfl rfl Try.func26 rfl rfl (bunion _ _ _ _ _ hbs3 hbs4) rfl rfl rfl ?_
  rintro e w ⟨q5, rfl, hbs5, hb⟩
  refine ⟨_, rfl, ?_⟩; clear S a; intro a S
  replace H := H.later hb; replace hbs1 := hbs1.later hb; replace hbs2 := hbs2.later hb; replace hbs3 := hbs3.later hb; replace hbs4 := hbs4.later hb; clear hb
  refine l_call S rfl rfl Try.func27 rfl rfl (binv _ _ _ hbs5) rfl rfl rfl ?_
  rintro e w ⟨q6, rfl, hbs6, hb⟩
  refine ⟨_, rfl, ?_⟩; clear S a; intro a S
  replace H := H.later hb; replace hbs1 := hbs1.later hb; replace hbs2 := hbs2.later hb; replace hbs3 := hbs3.later hb; replace hbs4 := hbs4.later hb; replace hbs5 := hbs5.later hb; clear hb
  refine l_pure S (p_assign rfl) rfl rfl rfl ?_; clear S a; intro a S
  refine l_nil ?_
  refine e_then ?_
  refine wp_ret ?_
  exact r_ret1 S rfl rfl ⟨_, rfl, hbs6, H.below⟩
def P_fieldKeyChars : Nat → Bool := P_tagKeyChars
theorem b_fieldKeyChars (w0 : World) : Calls Try.prog 18 #[] w0 fun e w' => ∃ g, e = .returned (.pointer (some ⟨g, 0, none⟩)) ∧ BS w' g (P_fieldKeyChars) ∧ Below w0.heap.size w0 w' := by
  have H := HH.start w0
  refine c_enter (args := []) (k := 2) Try.func18 rfl rfl rfl (fun a S => ?_)
  refine wp_seq ?_
  refine c_region ?_
  refine l_pure S (p_assign rfl) rfl rfl rfl ?_; clear S a; intro a S
  refine l_nil ?_
  refine e_then ?_
  refine wp_seq ?_
  refine c_region ?_
  refine l_call S rfl rfl Try.func13 rfl rfl (b_tagKeyChars _) rfl rfl rfl ?_
  rintro e w ⟨q1, rfl, hbs1, hb⟩
  refine ⟨_, rfl, ?_⟩; clear S a; intro a S
  replace H := H.later hb; clear hb
  refine l_pure S (p_assign rfl) rfl rfl rfl ?_; clear S a; intro a S
  refine l_nil ?_
  refine e_then ?_
  refine wp_ret ?_
  exact r_ret1 S rfl rfl ⟨_, rfl, hbs1, H.below⟩
def P_fieldStringValChars : Nat → Bool := bNot (ofs ⟨#[34]⟩)
theorem b_fieldStringValChars (w0 : World) : Calls Try.prog 19 #[] w0 fun e w' => ∃ g, e = .returned (.pointer (some ⟨g, 0, none⟩)) ∧ BS w' g (P_fieldStringValChars) ∧ Below w0.heap.size w0 w' := by
  have H := HH.start w0
  refine c_enter (args := []) (k := 3) Try.func19 rfl rfl rfl (fun a S => ?_)
  refine wp_seq ?_
  refine c_region ?_
  refine l_pure S (p_assign rfl) rfl rfl rfl ?_; clear S a; intro a S
  refine l_nil ?_
  refine e_then ?_
  refine wp_seq ?_
  refine c_region ?_
  refine l_call S rfl rfl Try.func25 rfl rfl (bnew ⟨#[34]⟩ _ (by decide)) rfl rfl rfl ?_
  rintro e w ⟨q1, rfl, hbs1, hb⟩
  refine ⟨_, rfl, ?_⟩; clear S a; intro a S
  replace H := H.later hb; clear hb
  refine l_call S rfl rfl Try.func27 rfl rfl (binv _ _ _ hbs1) rfl rfl rfl ?_
  rintro e w ⟨q2, rfl, hbs2, hb⟩
  refine ⟨_, rfl, ?_⟩; clear S a; intro a S
  replace H := H.later hb; replace hbs1 := hbs1.later hb; clear hb
  refine l_pure S (p_assign rfl) rfl rfl rfl ?_; clear S a; intro a S
  refine l_nil ?_
  refine e_then ?_
  refine wp_ret ?_
  exact r_ret1 S rfl rfl ⟨_, rfl, hbs2, H.below⟩
def P_fieldValChars : Nat → Bool := bNot (bOr (ofs ⟨#[44]⟩) (P_whitespace))
theorem b_fieldValChars (w0 : World) : Calls Try.prog 20 #[] w0 fun e w' => ∃ g, e = .returned (.pointer (some ⟨g, 0, none⟩)) ∧ BS w' g (P_fieldValChars) ∧ Below w0.heap.size w0 w' := by
  have H := HH.start w0
  refine c_enter (args := []) (k := 5) Try.func20 rfl rfl rfl (fun a S => ?_)
  refine wp_seq ?_
  refine c_region ?_
  refine l_pure S (p_assign rfl) rfl rfl rfl ?_; clear S a; intro a S
  refine l_nil ?_
  refine e_then ?_
  refine wp_seq ?_
  refine c_region ?_
  refine l_call S rfl rfl Try.func25 rfl rfl (bnew ⟨#[44]⟩ _ (by decide)) rfl rfl rfl ?_
  rintro e w ⟨q1, rfl, hbs1, hb⟩
  refine ⟨_, rfl, ?_⟩; clear S a; intro a S
  replace H := H.later hb; clear hb
  refine l_call S rfl rfl Try.func12 rfl rfl (b_whitespace _) rfl rfl rfl ?_
  rintro e w ⟨q2, rfl, hbs2, hb⟩
  refine ⟨_, rfl, ?_⟩; clear S a; intro a S
  replace H := H.later hb; replace hbs1 := hbs1.later hb; clear hb
  refine l_call S rfl rfl Try.func26 rfl rfl (bunion _ _ _ _ _ hbs1 hbs2) rfl rfl rfl ?_
  rintro e w ⟨q3, rfl, hbs3, hb⟩
  refine ⟨_, rfl, ?_⟩; clear S a; intro a S
  replace H := H.later hb; replace hbs1 := hbs1.later hb; replace hbs2 := hbs2.later hb; clear hb
  refine l_call S rfl rfl Try.func27 rfl rfl (binv _ _ _ hbs3) rfl rfl rfl ?_
  rintro e w ⟨q4, rfl, hbs4, hb⟩
  refine ⟨_, rfl, ?_⟩; clear S a; intro a S
  replace H := H.later hb; replace hbs1 := hbs1.later hb; replace hbs2 := hbs2.later hb; replace hbs3 := hbs3.later hb; clear hb
  refine l_pure S (p_assign rfl) rfl rfl rfl ?_; clear S a; intro a S
  refine l_nil ?_
  refine e_then ?_
  refine wp_ret ?_
  exact r_ret1 S rfl rfl ⟨_, rfl, hbs4, H.below⟩
def P_timeChars : Nat → Bool := ofs ⟨#[45, 48, 49, 50, 51, 52, 53, 54, 55, 56, 57]⟩
theorem b_timeChars (w0 : World) : Calls Try.prog 21 #[] w0 fun e w' => ∃ g, e = .returned (.pointer (some ⟨g, 0, none⟩)) ∧ BS w' g (P_timeChars) ∧ Below w0.heap.size w0 w' := by
  have H := HH.start w0
  refine c_enter (args := []) (k := 2) Try.func21 rfl rfl rfl (fun a S => ?_)
  refine wp_seq ?_
  refine c_region ?_
  refine l_pure S (p_assign rfl) rfl rfl rfl ?_; clear S a; intro a S
  refine l_nil ?_
  refine e_then ?_
  refine wp_seq ?_
  refine c_region ?_
  refine l_call S rfl rfl Try.func25 rfl rfl (bnew ⟨#[45, 48, 49, 50, 51, 52, 53, 54, 55, 56, 57]⟩ _ (by decide)) rfl rfl rfl ?_
  rintro e w ⟨q1, rfl, hbs1, hb⟩
  refine ⟨_, rfl, ?_⟩; clear S a; intro a S
  replace H := H.later hb; clear hb
  refine l_pure S (p_assign rfl) rfl rfl rfl ?_; clear S a; intro a S
  refine l_nil ?_
  refine e_then ?_
  refine wp_ret ?_
  exact r_ret1 S rfl rfl ⟨_, rfl, hbs1, H.below⟩
def P_commentChars : Nat → Bool := bAnd (bNot (P_nonPrintable)) (bNot (P_eolChars))
theorem b_commentChars (w0 : World) : Calls Try.prog 22 #[] w0 fun e w' => ∃ g, e = .returned (.pointer (some ⟨g, 0, none⟩)) ∧ BS w' g (P_commentChars) ∧ Below w0.heap.size w0 w' := by
  have H := HH.start w0
  refine c_enter (args := []) (k := 5) Try.func22 rfl rfl rfl (fun a S => ?_)
  refine wp_seq ?_
  refine c_region ?_
  refine l_pure S (p_assign rfl) rfl rfl rfl ?_; clear S a; intro a S
  refine l_nil ?_
  refine e_then ?_
  refine wp_seq ?_
  refine c_region ?_
  refine l_call S rfl rfl Try.func14 rfl rfl (b_nonPrintable _) rfl rfl rfl ?_
  rintro e w ⟨q1, rfl, hbs1, hb⟩
  refine ⟨_, rfl, ?_⟩; clear S a; intro a S
  replace H := H.later hb; clear hb
  refine l_call S rfl rfl Try.func27 rfl rfl (binv _ _ _ hbs1) rfl rfl rfl ?_
  rintro e w ⟨q2, rfl, hbs2, hb⟩
  refine ⟨_, rfl, ?_⟩; clear S a; intro a S
  replace H := H.later hb; replace hbs1 := hbs1.later hb; clear hb
  refine l_call S rfl rfl Try.func15 rfl rfl (b_eolChars _) rfl rfl rfl ?_
  rintro e w ⟨q3, rfl, hbs3, hb⟩
  refine ⟨_, rfl, ?_⟩; clear S a; intro a S
  replace H := H.later hb; replace hbs1 := hbs1.later hb; replace hbs2 := hbs2.later hb; clear hb
  refine l_call S rfl rfl Try.func29 rfl rfl (bwo _ _ _ _ _ hbs2 hbs3) rfl rfl rfl ?_
  rintro e w ⟨q4, rfl, hbs4, hb⟩
  refine ⟨_, rfl, ?_⟩; clear S a; intro a S
  replace H := H.later hb; replace hbs1 := hbs1.later hb; replace hbs2 := hbs2.later hb; replace hbs3 := hbs3.later hb; clear hb
  refine l_pure S (p_assign rfl) rfl rfl rfl ?_; clear S a; intro a S
  refine l_nil ?_
  refine e_then ?_
  refine wp_ret ?_
  exact r_ret1 S rfl rfl ⟨_, rfl, hbs4, H.below⟩
def P_notEOL : Nat → Bool := bNot (P_eolChars)
theorem b_notEOL (w0 : World) : Calls Try.prog 23 #[] w0 fun e w' => ∃ g, e = .returned (.pointer (some ⟨g, 0, none⟩)) ∧ BS w' g (P_notEOL) ∧ Below w0.heap.size w0 w' := by
  have H := HH.start w0
  refine c_enter (args := []) (k := 3) Try.func23 rfl rfl rfl (fun a S => ?_)
  refine wp_seq ?_
  refine c_region ?_
  refine l_pure S (p_assign rfl) rfl rfl rfl ?_; clear S a; intro a S
  refine l_nil ?_
  refine e_then ?_
  refine wp_seq ?_
  refine c_region ?_
  refine l_call S rfl rfl Try.func15 rfl rfl (b_eolChars _) rfl rfl rfl ?_
  rintro e w ⟨q1, rfl, hbs1, hb⟩
  refine ⟨_, rfl, ?_⟩; clear S a; intro a S
  replace H := H.later hb; clear hb
  refine l_call S rfl rfl Try.func27 rfl rfl (binv _ _ _ hbs1) rfl rfl rfl ?_
  rintro e w ⟨q2, rfl, hbs2, hb⟩
  refine ⟨_, rfl, ?_⟩; clear S a; intro a S
  replace H := H.later hb; replace hbs1 := hbs1.later hb; clear hb
  refine l_pure S (p_assign rfl) rfl rfl rfl ?_; clear S a; intro a S
  refine l_nil ?_
  refine e_then ?_
  refine wp_ret ?_
  exact r_ret1 S rfl rfl ⟨_, rfl, hbs2, H.below⟩
def P_notNewline : Nat → Bool := bNot (ofs ⟨#[10]⟩)
theorem b_notNewline (w0 : World) : Calls Try.prog 24 #[] w0 fun e w' => ∃ g, e = .returned (.pointer (some ⟨g, 0, none⟩)) ∧ BS w' g (P_notNewline) ∧ Below w0.heap.size w0 w' := by
  have H := HH.start w0
  refine c_enter (args := []) (k := 3) Try.func24 rfl rfl rfl (fun a S => ?_)
  refine wp_seq ?_
  refine c_region ?_
  refine l_pure S (p_assign rfl) rfl rfl rfl ?_; clear S a; intro a S
  refine l_nil ?_
  refine e_then ?_
  refine wp_seq ?_
  refine c_region ?_
  refine l_call S rfl rfl Try.func25 rfl rfl (bnew ⟨#[10]⟩ _ (by decide)) rfl rfl rfl ?_
  rintro e w ⟨q1, rfl, hbs1, hb⟩
  refine ⟨_, rfl, ?_⟩; clear S a; intro a S
  replace H := H.later hb; clear hb
  refine l_call S rfl rfl Try.func27 rfl rfl (binv _ _ _ hbs1) rfl rfl rfl ?_
  rintro e w ⟨q2, rfl, hbs2, hb⟩
  refine ⟨_, rfl, ?_⟩; clear S a; intro a S
  replace H := H.later hb; replace hbs1 := hbs1.later hb; clear hb
  refine l_pure S (p_assign rfl) rfl rfl rfl ?_; clear S a; intro a S
  refine l_nil ?_
  refine e_then ?_
  refine wp_ret ?_
  exact r_ret1 S rfl rfl ⟨_, rfl, hbs2, H.below⟩
theorem bget (g x : Nat) (p : Nat → Bool) (w0 : World) (hp : BS w0 g p) (hx : x < 256) : Calls Try.prog 10 #[.pointer (some ⟨g, 0, none⟩), .int .u8 (x : Int)] w0 fun e w' => e = .returned (.bool (p x)) ∧ w' = w0 := by
  have H := HH.start w0
  refine c_enter (args := [.pointer (some ⟨g, 0, none⟩), .int .u8 (x : Int)]) (k := 8) Try.func10 rfl rfl rfl (fun a S => ?_)
  refine wp_seq ?_
  refine c_region ?_
  refine l_pure S (p_assign rfl) rfl rfl rfl ?_; clear S a; intro a S
  refine l_nil ?_
  refine e_then ?_
  refine wp_seq ?_
  refine c_region ?_
  refine l_pure S (p_move rfl) rfl rfl rfl ?_; clear S a; intro a S
  refine l_pure S (p_move rfl) rfl rfl rfl ?_; clear S a; intro a S
  refine l_pure S (p_nilCheck rfl) rfl rfl rfl ?_; clear S a; intro a S
  refine l_pure S (p_indexAddr rfl rfl (fun w => ia_array Try.underlying32 sz4 (by omega) (by omega))) rfl rfl rfl ?_; clear S a; intro a S
  refine l_read S H (r_bit (i := x) rfl (by omega) (by omega) ag4 hp rfl) rfl rfl rfl ?_; clear S a; intro a S
  refine l_pure S (p_assign rfl) rfl rfl rfl ?_; clear S a; intro a S
  refine l_nil ?_
  refine e_then ?_
  refine wp_ret ?_
  exact r_ret1 S rfl rfl ⟨rfl, rfl⟩
end Go.Proofs.Ytbahngfpadjbhaa.bytes
