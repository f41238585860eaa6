/- The decoder's sets of bytes, walked. -/
import Derived.Test.YtbahngfpadjbhaaDoorProg
import Derived.Test.YtbahngfpadjbhaaDoorBt
namespace Go.Proofs.YtbahngfpadjbhaaDoor.st
open Go.RowKit Go.Proofs.HHW Go.Proofs.YtbahngfpadjbhaaDoorW.PrintWords
set_option linter.unusedVariables false
set_option linter.unusedSimpArgs false
theorem ag4 : aggB Tryd.prog 4 = some false := by kernel_rfl
theorem sz4 : szB Tryd.prog 4 = some 1 := by kernel_rfl

theorem all256 {p q : Nat → Bool} (h : (List.range 256).all (fun i => p i == q i) = true) : ∀ i, i < 256 → p i = q i := fun i hi => by simpa using List.all_eq_true.1 h i (List.mem_range.2 hi)
theorem zvA : zvB Tryd.prog 99 = some (.agg (vec (fun _ => false)).toArray) := by kernel_rfl
theorem szA : szB Tryd.prog 99 = some 256 := by kernel_rfl
theorem agA : aggB Tryd.prog 99 = some true := by kernel_rfl
theorem bset (wb w0 : World) (B : Nat) (L0 : List (Nat × Obj)) (g x : Nat) (p : Nat → Bool) (hx : x < 256) (H : HH B wb w0 ((g, .cells (vec (p)).toArray 99 (0, 0)) :: L0)) : Calls Tryd.prog 70 #[.pointer (some ⟨g, 0, none⟩), .int .u8 (x : Int)] w0 fun e w' => e = .returned (.tuple #[]) ∧ HH B wb w' ((g, .cells (vec (fun j => if j = x then true else p j)).toArray 99 (0, 0)) :: L0) := by
 refine c_enter (args := [.pointer (some ⟨g, 0, none⟩), .int .u8 (x : Int)]) (k := 6) Tryd.func70 rfl rfl rfl (fun a S => ?_)
 refine c_region ?_
 refine l_pure S (p_move rfl) rfl rfl rfl ?_; clear S a; intro a S
 refine l_pure S (p_move rfl) rfl rfl rfl ?_; clear S a; intro a S
 refine l_pure S (p_nilCheck rfl) rfl rfl rfl ?_; clear S a; intro a S
 refine l_pure S (p_indexAddr rfl rfl (fun w => ia_array Tryd.underlying99 sz4 (by omega) (by omega))) rfl rfl rfl ?_; clear S a; intro a S
 refine l_store S H rfl rfl rfl .here (by simp [vec_len]; omega) (fun w u hc hz => st1 sz4 rfl hc hz) rfl rfl ?_; clear S a H; intro w a H S
 have e0 : 0 + (x : Int).toNat * 1 = x := by omega
 rw [e0, vec_set] at H
 refine l_nil ?_
 exact r_end0 S rfl ⟨rfl, H⟩
set_option maxRecDepth 20000 in
theorem bnew (wb w0 : World) (B : Nat) (L0 : List (Nat × Obj)) (s : ByteArray) (hs : s.size ≤ 1000000) (H : HH B wb w0 L0) : Calls Tryd.prog 61 #[.string s] w0 fun e w' => ∃ g, e = .returned (.pointer (some ⟨g, 0, none⟩)) ∧ HH B wb w' ((g, .cells (vec (ofs s)).toArray 99 (0, 0)) :: L0) := by
 refine c_enter (args := [.string s]) (k := 14) Tryd.func61 rfl rfl rfl (fun a S => ?_)
 refine wp_seq ?_
 refine c_region ?_
 refine l_pure S (p_assign rfl) rfl rfl rfl ?_; clear S a; intro a S
 refine l_nil ?_
 refine e_then ?_
 refine wp_seq ?_
 refine c_region ?_
 refine l_alloc (cs := (vec (fun _ => false)).toArray) S H rfl (fun w => al zvA) rfl rfl rfl ?_; clear S a H; intro g1 w a H S
 refine l_nil ?_
 refine e_then ?_
 refine wp_seq ?_
 refine wp_seq ?_
 refine c_region ?_
 refine l_pure S (p_assign rfl) rfl rfl rfl ?_; clear S a; intro a S
 refine l_nil ?_
 refine e_then ?_
 refine wp_block ?_
 rw [show vec (fun _ => false) = vec (inp (ints s) 0) by rw [inp_zero]] at H
 refine c_loop (σ := Nat) (fun s_ a w => match s_ with | i => SL a 15 [] [(0, .string s), (3, .pointer (some ⟨g1, 0, none⟩)), (4, .int .i64 (i : Int))] ∧ HH (B) wb w ((g1, .cells (vec (inp (ints s) i)).toArray 99 (0, 0)) :: L0) ∧ (i ≤ s.size)) (fun s_ => match s_ with | i => s.size - i) 0 ⟨S.only ⟨rfl, rfl, rfl, trivial⟩, H, Nat.zero_le _⟩ ?_
 clear S a H; rintro i a w ⟨S, H, hinv⟩
 have hbt := HHW.bt_range s (i : Int)
 refine wp_seq ?_
 refine wp_seq ?_
 refine c_region ?_
 refine l_pure S (p_move rfl) rfl rfl rfl ?_; clear S a; intro a S
 refine l_pure S (p_move rfl) rfl rfl rfl ?_; clear S a; intro a S
 refine l_pure S (p_builtin (xs := [_]) rfl (fun _ _ _ => rfl)) rfl rfl rfl ?_; clear S a; intro a S
 refine l_pure S (p_lss rfl rfl) rfl rfl rfl ?_; clear S a; intro a S
 refine l_nil ?_
 refine e_then ?_
 refine c_cond S rfl (fun bc3 => ?_) (fun bc3 => ?_)
 ·
  have c3 := bc3
  have c3 := of_decide_eq_true c3
  refine wp_skip ?_
  refine e_then ?_
  refine wp_seq ?_
  refine wp_block ?_
  refine c_region ?_
  refine l_pure S (p_move rfl) rfl rfl rfl ?_; clear S a; intro a S
  refine l_pure S (p_move rfl) rfl rfl rfl ?_; clear S a; intro a S
  refine l_pure S (p_index rfl rfl (fun w => ix_string Tryd.underlying9 (by omega) (by omega))) rfl rfl rfl ?_; clear S a; intro a S
  have hi : i < s.size := by omega
  have ebt : ((HHW.bt s (i : Int)).toNat : Int) = HHW.bt s (i : Int) := by omega
  rw [← ebt] at S
  have hcon := bset wb _ B L0 _ (HHW.bt s (i : Int)).toNat _ (by omega) H
  refine l_call S rfl rfl Tryd.func70 rfl rfl (hcon) rfl rfl rfl ?_
  rintro e w ⟨rfl, hH⟩
  refine ⟨_, rfl, ?_⟩; clear S a; intro a S
  clear H hcon; have H := hH; clear hH; rw [inp_succ (ints_bt s hi)] at H
  refine l_nil ?_
  refine e_in 1 ?_
  refine e_then ?_
  refine c_region ?_
  refine l_pure S (p_move rfl) rfl rfl rfl ?_; clear S a; intro a S
  refine l_pure S (p_add rfl rfl (nat_add (x := i) (y := 1) (by omega))) rfl rfl rfl ?_; clear S a; intro a S
  refine l_pure S (p_assign rfl) rfl rfl rfl ?_; clear S a; intro a S
  refine l_nil ?_
  refine e_then ?_
  exact ⟨(i + 1), ⟨S.only ⟨rfl, rfl, rfl, trivial⟩, H, by omega⟩, by show s.size - (i + 1) < s.size - i; omega⟩
 ·
  have c3 := bc3
  have c3 := of_decide_eq_false c3
  refine wp_exit ?_
  refine e_then_exit ?_
  refine e_then_exit ?_
  refine e_in_exit ?_
  refine e_then ?_
  refine wp_seq ?_
  refine c_region ?_
  refine l_pure S (p_assign rfl) rfl rfl rfl ?_; clear S a; intro a S
  refine l_nil ?_
  refine e_then ?_
  refine wp_ret ?_
  rw [inp_all s (by omega)] at H
  exact r_ret1 S rfl rfl ⟨g1, rfl, H⟩
theorem brange (wb w0 : World) (B : Nat) (L0 : List (Nat × Obj)) (H : HH B wb w0 L0) : Calls Tryd.prog 64 #[.int .u8 0, .int .u8 31] w0 fun e w' => ∃ g, e = .returned (.pointer (some ⟨g, 0, none⟩)) ∧ HH B wb w' ((g, .cells (vec (upto 32 (fun _ => true) (fun _ => false))).toArray 99 (0, 0)) :: L0) := by
 refine c_enter (args := [.int .u8 0, .int .u8 31]) (k := 13) Tryd.func64 rfl rfl rfl (fun a S => ?_)
 refine wp_seq ?_
 refine c_region ?_
 refine l_pure S (p_assign rfl) rfl rfl rfl ?_; clear S a; intro a S
 refine l_nil ?_
 refine e_then ?_
 refine wp_seq ?_
 refine c_region ?_
 refine l_alloc (cs := (vec (fun _ => false)).toArray) S H rfl (fun w => al zvA) rfl rfl rfl ?_; clear S a H; intro g1 w a H S
 refine l_nil ?_
 refine e_then ?_
 refine wp_seq ?_
 refine wp_seq ?_
 refine c_region ?_
 refine l_pure S (p_move rfl) rfl rfl rfl ?_; clear S a; intro a S
 refine l_pure S (p_assign rfl) rfl rfl rfl ?_; clear S a; intro a S
 refine l_nil ?_
 refine e_then ?_
 refine wp_block ?_
 rw [show vec (fun _ => false) = vec (upto 0 (fun _ => true) (fun _ => false)) by rw [upto_zero]] at H
 refine c_loop (σ := Nat) (fun s_ a w => match s_ with | i => SL a 15 [] [(1, .int .u8 31), (5, .pointer (some ⟨g1, 0, none⟩)), (6, .int .u8 (i : Int))] ∧ HH (B) wb w ((g1, .cells (vec (upto i (fun _ => true) (fun _ => false))).toArray 99 (0, 0)) :: L0) ∧ (i ≤ 32)) (fun s_ => match s_ with | i => 32 - i) 0 ⟨S.only ⟨rfl, rfl, rfl, trivial⟩, H, Nat.zero_le _⟩ ?_
 clear S a H; rintro i a w ⟨S, H, hinv⟩
 refine wp_seq ?_
 refine wp_seq ?_
 refine c_region ?_
 refine l_pure S (p_move rfl) rfl rfl rfl ?_; clear S a; intro a S
 refine l_pure S (p_move rfl) rfl rfl rfl ?_; clear S a; intro a S
 refine l_pure S (p_leq rfl rfl) rfl rfl rfl ?_; clear S a; intro a S
 refine l_nil ?_
 refine e_then ?_
 refine c_cond S rfl (fun bc3 => ?_) (fun bc3 => ?_)
 ·
  have c3 := bc3
  have c3 := of_decide_eq_true c3
  refine wp_skip ?_
  refine e_then ?_
  refine wp_seq ?_
  refine wp_block ?_
  refine c_region ?_
  refine l_pure S (p_move rfl) rfl rfl rfl ?_; clear S a; intro a S
  have hcon := bset wb _ B L0 _ i _ (by omega) H
  refine l_call S rfl rfl Tryd.func70 rfl rfl (hcon) rfl rfl rfl ?_
  rintro e w ⟨rfl, hH⟩
  refine ⟨_, rfl, ?_⟩; clear S a; intro a S
  clear H hcon; have H := hH; clear hH; rw [upto_succ i (fun _ => true) (fun _ => false) (v := true) rfl] at H
  refine l_nil ?_
  refine e_in 1 ?_
  refine e_then ?_
  refine c_region ?_
  refine l_pure S (p_move rfl) rfl rfl rfl ?_; clear S a; intro a S
  refine l_pure S (p_add (r := _) rfl rfl (IntWalk.u8_in _ (by omega))) rfl rfl rfl ?_; clear S a; intro a S
  refine l_pure S (p_assign rfl) rfl rfl rfl ?_; clear S a; intro a S
  refine l_nil ?_
  refine e_then ?_
  exact ⟨(i + 1), ⟨S.only ⟨rfl, rfl, rfl, trivial⟩, H, by omega⟩, by show 32 - (i + 1) < 32 - i; omega⟩
 ·
  have c3 := bc3
  have c3 := of_decide_eq_false c3
  refine wp_exit ?_
  refine e_then_exit ?_
  refine e_then_exit ?_
  refine e_in_exit ?_
  refine e_then ?_
  refine wp_seq ?_
  refine c_region ?_
  refine l_pure S (p_assign rfl) rfl rfl rfl ?_; clear S a; intro a S
  refine l_nil ?_
  refine e_then ?_
  refine wp_ret ?_
  have ei : i = 32 := by omega
  subst ei
  exact r_ret1 S rfl rfl ⟨g1, rfl, H⟩
theorem bunion (wb w0 : World) (B : Nat) (L0 : List (Nat × Obj)) (gp gq : Nat) (p q : Nat → Bool) (hgp : (gp, Obj.cells (vec p).toArray 99 (0, 0)) ∈ L0) (hgq : (gq, Obj.cells (vec q).toArray 99 (0, 0)) ∈ L0) (H : HH B wb w0 L0) : Calls Tryd.prog 62 #[.pointer (some ⟨gp, 0, none⟩), .pointer (some ⟨gq, 0, none⟩)] w0 fun e w' => ∃ g, e = .returned (.pointer (some ⟨g, 0, none⟩)) ∧ HH B wb w' ((g, .cells (vec (bOr p q)).toArray 99 (0, 0)) :: L0) := by
 refine c_enter (args := [.pointer (some ⟨gp, 0, none⟩), .pointer (some ⟨gq, 0, none⟩)]) (k := 24) Tryd.func62 rfl rfl rfl (fun a S => ?_)
 refine wp_seq ?_
 refine c_region ?_
 refine l_pure S (p_assign rfl) rfl rfl rfl ?_; clear S a; intro a S
 refine l_nil ?_
 refine e_then ?_
 refine wp_seq ?_
 refine c_region ?_
 refine l_pure S (p_move rfl) rfl rfl rfl ?_; clear S a; intro a S
 refine l_pure S (p_nilCheck rfl) rfl rfl rfl ?_; clear S a; intro a S
 refine l_read S H (r_setM rfl agA szA hgp) rfl rfl rfl ?_; clear S a; intro a S
 refine l_alloc (cs := (vec (fun _ => false)).toArray) S H rfl (fun w => al zvA) rfl rfl rfl ?_; clear S a H; intro g1 w a H S
 refine l_storeAll (vs := vec p) S H rfl rfl rfl (by rw [szA, vec_len]) .here (by simp [vec_len]) (vec_one p) rfl rfl ?_; clear S a H; intro w a H S
 refine l_nil ?_
 refine e_then ?_
 refine wp_seq ?_
 refine wp_seq ?_
 refine c_region ?_
 refine l_pure S (p_move rfl) rfl rfl rfl ?_; clear S a; intro a S
 refine l_nil ?_
 refine e_then ?_
 refine wp_block ?_
 rw [show vec p = vec (upto 0 (bOr p q) p) by rw [upto_zero]] at H
 refine c_loop (σ := Nat) (fun s_ a w => match s_ with | i => SL a 26 [] [(1, .pointer (some ⟨gq, 0, none⟩)), (5, .pointer (some ⟨g1, 0, none⟩)), (10, .int .i64 (i : Int))] ∧ HH (B) wb w ((g1, .cells (vec (upto i (bOr p q) p)).toArray 99 (0, 0)) :: L0) ∧ (i ≤ 256)) (fun s_ => match s_ with | i => 256 - i) 0 ⟨S.only ⟨rfl, rfl, rfl, trivial⟩, H, Nat.zero_le _⟩ ?_
 clear S a H; rintro i a w ⟨S, H, hinv⟩
 refine wp_seq ?_
 refine c_region ?_
 refine l_pure S (p_lss rfl rfl) rfl rfl rfl ?_; clear S a; intro a S
 refine l_nil ?_
 refine e_then ?_
 refine wp_seq ?_
 refine c_cond S rfl (fun bc3 => ?_) (fun bc3 => ?_)
 ·
  have c3 := bc3
  have c3 := of_decide_eq_true c3
  refine wp_skip ?_
  refine e_then ?_
  refine wp_seq ?_
  refine wp_block ?_
  refine wp_seq ?_
  refine c_region ?_
  refine l_pure S (p_move rfl) rfl rfl rfl ?_; clear S a; intro a S
  refine l_pure S (p_assign rfl) rfl rfl rfl ?_; clear S a; intro a S
  refine l_nil ?_
  refine e_then ?_
  refine c_region ?_
  refine l_pure S (p_move rfl) rfl rfl rfl ?_; clear S a; intro a S
  refine l_pure S (p_move rfl) rfl rfl rfl ?_; clear S a; intro a S
  refine l_pure S (p_indexAddr rfl rfl (fun w => ia_array Tryd.underlying99 sz4 (by omega) (by omega))) rfl rfl rfl ?_; clear S a; intro a S
  refine l_read S H (r_load (v := .bool (p i)) rfl List.mem_cons_self (vec_arr (upto i (bOr p q) p) (by omega) (upto_at i _ _)) (fun w hc => ld1 ag4 hc)) rfl rfl rfl ?_; clear S a; intro a S
  refine l_pure S (p_move rfl) rfl rfl rfl ?_; clear S a; intro a S
  refine l_split (S.of 17 rfl) (fun bc5 => ?_) (fun bc5 => ?_)
  ·
   refine l_off S rfl rfl rfl rfl bc5 rfl rfl ?_; clear S a; intro a S
   refine l_off S rfl rfl rfl rfl bc5 rfl rfl ?_; clear S a; intro a S
   refine l_off S rfl rfl rfl rfl bc5 rfl rfl ?_; clear S a; intro a S
   refine l_off S rfl rfl rfl rfl bc5 rfl rfl ?_; clear S a; intro a S
   refine l_off S rfl rfl rfl rfl bc5 rfl rfl ?_; clear S a; intro a S
   refine l_pure S (p_pick_t rfl bc5 rfl) rfl rfl rfl ?_; clear S a; intro a S
   refine l_pure S (p_indexAddr rfl rfl (fun w => ia_array Tryd.underlying99 sz4 (by omega) (by omega))) rfl rfl rfl ?_; clear S a; intro a S
   refine l_store S H rfl rfl rfl .here (by simp [vec_len]; omega) (fun w u hc hz => st1 sz4 rfl hc hz) rfl rfl ?_; clear S a H; intro w a H S
   have e0 : 0 + (i : Int).toNat * 1 = i := by omega
   rw [e0, vec_set, upto_succ i (bOr p q) p (by simp_all [bOr, bAnd, bNot])] at H
   refine l_nil ?_
   refine e_in 1 ?_
   refine e_then ?_
   refine c_region ?_
   refine l_pure S (p_add rfl rfl (nat_add (x := i) (y := 1) (by omega))) rfl rfl rfl ?_; clear S a; intro a S
   refine l_pure S (p_move rfl) rfl rfl rfl ?_; clear S a; intro a S
   refine l_nil ?_
   refine e_then ?_
   exact ⟨(i + 1), ⟨S.only ⟨rfl, rfl, rfl, trivial⟩, H, by omega⟩, by show 256 - (i + 1) < 256 - i; omega⟩
  ·
   refine l_on S rfl rfl rfl rfl bc5 ?_
   refine l_pure S (p_move rfl) rfl rfl rfl ?_; clear S a; intro a S
   refine l_on S rfl rfl rfl rfl bc5 ?_
   refine l_pure S (p_move rfl) rfl rfl rfl ?_; clear S a; intro a S
   refine l_on S rfl rfl rfl rfl bc5 ?_
   refine l_pure S (p_nilCheck rfl) rfl rfl rfl ?_; clear S a; intro a S
   refine l_on S rfl rfl rfl rfl bc5 ?_
   refine l_pure S (p_indexAddr rfl rfl (fun w => ia_array Tryd.underlying99 sz4 (by omega) (by omega))) rfl rfl rfl ?_; clear S a; intro a S
   refine l_on S rfl rfl rfl rfl bc5 ?_
   refine l_read S H (r_bitM (i := i) rfl (by omega) (by omega) ag4 (List.mem_cons_of_mem _ hgq)) rfl rfl rfl ?_; clear S a; intro a S
   refine l_pure S (p_pick_f rfl bc5 rfl) rfl rfl rfl ?_; clear S a; intro a S
   refine l_pure S (p_indexAddr rfl rfl (fun w => ia_array Tryd.underlying99 sz4 (by omega) (by omega))) rfl rfl rfl ?_; clear S a; intro a S
   refine l_store S H rfl rfl rfl .here (by simp [vec_len]; omega) (fun w u hc hz => st1 sz4 rfl hc hz) rfl rfl ?_; clear S a H; intro w a H S
   have e0 : 0 + (i : Int).toNat * 1 = i := by omega
   rw [e0, vec_set, upto_succ i (bOr p q) p (by simp_all [bOr, bAnd, bNot])] at H
   refine l_nil ?_
   refine e_in 1 ?_
   refine e_then ?_
   refine c_region ?_
   refine l_pure S (p_add rfl rfl (nat_add (x := i) (y := 1) (by omega))) rfl rfl rfl ?_; clear S a; intro a S
   refine l_pure S (p_move rfl) rfl rfl rfl ?_; clear S a; intro a S
   refine l_nil ?_
   refine e_then ?_
   exact ⟨(i + 1), ⟨S.only ⟨rfl, rfl, rfl, trivial⟩, H, by omega⟩, by show 256 - (i + 1) < 256 - i; omega⟩
 ·
  have c3 := bc3
  have c3 := of_decide_eq_false c3
  refine wp_exit ?_
  refine e_then_exit ?_
  refine e_then_exit ?_
  refine e_in_exit ?_
  refine e_then ?_
  refine wp_seq ?_
  refine c_region ?_
  refine l_pure S (p_assign rfl) rfl rfl rfl ?_; clear S a; intro a S
  refine l_nil ?_
  refine e_then ?_
  refine wp_ret ?_
  rw [show vec (upto i (bOr p q) p) = vec (bOr p q) from vec_ext (fun j hj => by simp [upto, show j < i by omega])] at H
  exact r_ret1 S rfl rfl ⟨g1, rfl, H⟩
theorem binter (wb w0 : World) (B : Nat) (L0 : List (Nat × Obj)) (gp gq : Nat) (p q : Nat → Bool) (hgp : (gp, Obj.cells (vec p).toArray 99 (0, 0)) ∈ L0) (hgq : (gq, Obj.cells (vec q).toArray 99 (0, 0)) ∈ L0) (H : HH B wb w0 L0) : Calls Tryd.prog 71 #[.pointer (some ⟨gp, 0, none⟩), .pointer (some ⟨gq, 0, none⟩)] w0 fun e w' => ∃ g, e = .returned (.pointer (some ⟨g, 0, none⟩)) ∧ HH B wb w' ((g, .cells (vec (bAnd p q)).toArray 99 (0, 0)) :: L0) := by
 refine c_enter (args := [.pointer (some ⟨gp, 0, none⟩), .pointer (some ⟨gq, 0, none⟩)]) (k := 24) Tryd.func71 rfl rfl rfl (fun a S => ?_)
 refine wp_seq ?_
 refine c_region ?_
 refine l_pure S (p_assign rfl) rfl rfl rfl ?_; clear S a; intro a S
 refine l_nil ?_
 refine e_then ?_
 refine wp_seq ?_
 refine c_region ?_
 refine l_pure S (p_move rfl) rfl rfl rfl ?_; clear S a; intro a S
 refine l_pure S (p_nilCheck rfl) rfl rfl rfl ?_; clear S a; intro a S
 refine l_read S H (r_setM rfl agA szA hgp) rfl rfl rfl ?_; clear S a; intro a S
 refine l_alloc (cs := (vec (fun _ => false)).toArray) S H rfl (fun w => al zvA) rfl rfl rfl ?_; clear S a H; intro g1 w a H S
 refine l_storeAll (vs := vec p) S H rfl rfl rfl (by rw [szA, vec_len]) .here (by simp [vec_len]) (vec_one p) rfl rfl ?_; clear S a H; intro w a H S
 refine l_nil ?_
 refine e_then ?_
 refine wp_seq ?_
 refine wp_seq ?_
 refine c_region ?_
 refine l_pure S (p_move rfl) rfl rfl rfl ?_; clear S a; intro a S
 refine l_nil ?_
 refine e_then ?_
 refine wp_block ?_
 rw [show vec p = vec (upto 0 (bAnd p q) p) by rw [upto_zero]] at H
 refine c_loop (σ := Nat) (fun s_ a w => match s_ with | i => SL a 26 [] [(1, .pointer (some ⟨gq, 0, none⟩)), (5, .pointer (some ⟨g1, 0, none⟩)), (10, .int .i64 (i : Int))] ∧ HH (B) wb w ((g1, .cells (vec (upto i (bAnd p q) p)).toArray 99 (0, 0)) :: L0) ∧ (i ≤ 256)) (fun s_ => match s_ with | i => 256 - i) 0 ⟨S.only ⟨rfl, rfl, rfl, trivial⟩, H, Nat.zero_le _⟩ ?_
 clear S a H; rintro i a w ⟨S, H, hinv⟩
 refine wp_seq ?_
 refine c_region ?_
 refine l_pure S (p_lss rfl rfl) rfl rfl rfl ?_; clear S a; intro a S
 refine l_nil ?_
 refine e_then ?_
 refine wp_seq ?_
 refine c_cond S rfl (fun bc3 => ?_) (fun bc3 => ?_)
 ·
  have c3 := bc3
  have c3 := of_decide_eq_true c3
  refine wp_skip ?_
  refine e_then ?_
  refine wp_seq ?_
  refine wp_block ?_
  refine wp_seq ?_
  refine c_region ?_
  refine l_pure S (p_move rfl) rfl rfl rfl ?_; clear S a; intro a S
  refine l_pure S (p_assign rfl) rfl rfl rfl ?_; clear S a; intro a S
  refine l_nil ?_
  refine e_then ?_
  refine c_region ?_
  refine l_pure S (p_move rfl) rfl rfl rfl ?_; clear S a; intro a S
  refine l_pure S (p_move rfl) rfl rfl rfl ?_; clear S a; intro a S
  refine l_pure S (p_indexAddr rfl rfl (fun w => ia_array Tryd.underlying99 sz4 (by omega) (by omega))) rfl rfl rfl ?_; clear S a; intro a S
  refine l_read S H (r_load (v := .bool (p i)) rfl List.mem_cons_self (vec_arr (upto i (bAnd p q) p) (by omega) (upto_at i _ _)) (fun w hc => ld1 ag4 hc)) rfl rfl rfl ?_; clear S a; intro a S
  refine l_pure S (p_move rfl) rfl rfl rfl ?_; clear S a; intro a S
  refine l_split (S.of 17 rfl) (fun bc5 => ?_) (fun bc5 => ?_)
  ·
   refine l_on S rfl rfl rfl rfl bc5 ?_
   refine l_pure S (p_move rfl) rfl rfl rfl ?_; clear S a; intro a S
   refine l_on S rfl rfl rfl rfl bc5 ?_
   refine l_pure S (p_move rfl) rfl rfl rfl ?_; clear S a; intro a S
   refine l_on S rfl rfl rfl rfl bc5 ?_
   refine l_pure S (p_nilCheck rfl) rfl rfl rfl ?_; clear S a; intro a S
   refine l_on S rfl rfl rfl rfl bc5 ?_
   refine l_pure S (p_indexAddr rfl rfl (fun w => ia_array Tryd.underlying99 sz4 (by omega) (by omega))) rfl rfl rfl ?_; clear S a; intro a S
   refine l_on S rfl rfl rfl rfl bc5 ?_
   refine l_read S H (r_bitM (i := i) rfl (by omega) (by omega) ag4 (List.mem_cons_of_mem _ hgq)) rfl rfl rfl ?_; clear S a; intro a S
   refine l_pure S (p_pick_t rfl bc5 rfl) rfl rfl rfl ?_; clear S a; intro a S
   refine l_pure S (p_indexAddr rfl rfl (fun w => ia_array Tryd.underlying99 sz4 (by omega) (by omega))) rfl rfl rfl ?_; clear S a; intro a S
   refine l_store S H rfl rfl rfl .here (by simp [vec_len]; omega) (fun w u hc hz => st1 sz4 rfl hc hz) rfl rfl ?_; clear S a H; intro w a H S
   have e0 : 0 + (i : Int).toNat * 1 = i := by omega
   rw [e0, vec_set, upto_succ i (bAnd p q) p (by simp_all [bOr, bAnd, bNot])] at H
   refine l_nil ?_
   refine e_in 1 ?_
   refine e_then ?_
   refine c_region ?_
   refine l_pure S (p_add rfl rfl (nat_add (x := i) (y := 1) (by omega))) rfl rfl rfl ?_; clear S a; intro a S
   refine l_pure S (p_move rfl) rfl rfl rfl ?_; clear S a; intro a S
   refine l_nil ?_
   refine e_then ?_
   exact ⟨(i + 1), ⟨S.only ⟨rfl, rfl, rfl, trivial⟩, H, by omega⟩, by show 256 - (i + 1) < 256 - i; omega⟩
  ·
   refine l_off S rfl rfl rfl rfl bc5 rfl rfl ?_; clear S a; intro a S
   refine l_off S rfl rfl rfl rfl bc5 rfl rfl ?_; clear S a; intro a S
   refine l_off S rfl rfl rfl rfl bc5 rfl rfl ?_; clear S a; intro a S
   refine l_off S rfl rfl rfl rfl bc5 rfl rfl ?_; clear S a; intro a S
   refine l_off S rfl rfl rfl rfl bc5 rfl rfl ?_; clear S a; intro a S
   refine l_pure S (p_pick_f rfl bc5 rfl) rfl rfl rfl ?_; clear S a; intro a S
   refine l_pure S (p_indexAddr rfl rfl (fun w => ia_array Tryd.underlying99 sz4 (by omega) (by omega))) rfl rfl rfl ?_; clear S a; intro a S
   refine l_store S H rfl rfl rfl .here (by simp [vec_len]; omega) (fun w u hc hz => st1 sz4 rfl hc hz) rfl rfl ?_; clear S a H; intro w a H S
   have e0 : 0 + (i : Int).toNat * 1 = i := by omega
   rw [e0, vec_set, upto_succ i (bAnd p q) p (by simp_all [bOr, bAnd, bNot])] at H
   refine l_nil ?_
   refine e_in 1 ?_
   refine e_then ?_
   refine c_region ?_
   refine l_pure S (p_add rfl rfl (nat_add (x := i) (y := 1) (by omega))) rfl rfl rfl ?_; clear S a; intro a S
   refine l_pure S (p_move rfl) rfl rfl rfl ?_; clear S a; intro a S
   refine l_nil ?_
   refine e_then ?_
   exact ⟨(i + 1), ⟨S.only ⟨rfl, rfl, rfl, trivial⟩, H, by omega⟩, by show 256 - (i + 1) < 256 - i; omega⟩
 ·
  have c3 := bc3
  have c3 := of_decide_eq_false c3
  refine wp_exit ?_
  refine e_then_exit ?_
  refine e_then_exit ?_
  refine e_in_exit ?_
  refine e_then ?_
  refine wp_seq ?_
  refine c_region ?_
  refine l_pure S (p_assign rfl) rfl rfl rfl ?_; clear S a; intro a S
  refine l_nil ?_
  refine e_then ?_
  refine wp_ret ?_
  rw [show vec (upto i (bAnd p q) p) = vec (bAnd p q) from vec_ext (fun j hj => by simp [upto, show j < i by omega])] at H
  exact r_ret1 S rfl rfl ⟨g1, rfl, H⟩
theorem binv (wb w0 : World) (B : Nat) (L0 : List (Nat × Obj)) (gp : Nat) (p : Nat → Bool) (hgp : (gp, Obj.cells (vec p).toArray 99 (0, 0)) ∈ L0) (H : HH B wb w0 L0) : Calls Tryd.prog 63 #[.pointer (some ⟨gp, 0, none⟩)] w0 fun e w' => ∃ g, e = .returned (.pointer (some ⟨g, 0, none⟩)) ∧ HH B wb w' ((g, .cells (vec (bNot p)).toArray 99 (0, 0)) :: L0) := by
 refine c_enter (args := [.pointer (some ⟨gp, 0, none⟩)]) (k := 17) Tryd.func63 rfl rfl rfl (fun a S => ?_)
 refine wp_seq ?_
 refine c_region ?_
 refine l_pure S (p_assign rfl) rfl rfl rfl ?_; clear S a; intro a S
 refine l_nil ?_
 refine e_then ?_
 refine wp_seq ?_
 refine c_region ?_
 refine l_pure S (p_move rfl) rfl rfl rfl ?_; clear S a; intro a S
 refine l_pure S (p_nilCheck rfl) rfl rfl rfl ?_; clear S a; intro a S
 refine l_read S H (r_setM rfl agA szA hgp) rfl rfl rfl ?_; clear S a; intro a S
 refine l_alloc (cs := (vec (fun _ => false)).toArray) S H rfl (fun w => al zvA) rfl rfl rfl ?_; clear S a H; intro g1 w a H S
 refine l_storeAll (vs := vec p) S H rfl rfl rfl (by rw [szA, vec_len]) .here (by simp [vec_len]) (vec_one p) rfl rfl ?_; clear S a H; intro w a H S
 refine l_nil ?_
 refine e_then ?_
 refine wp_seq ?_
 refine wp_seq ?_
 refine c_region ?_
 refine l_pure S (p_move rfl) rfl rfl rfl ?_; clear S a; intro a S
 refine l_nil ?_
 refine e_then ?_
 refine wp_block ?_
 rw [show vec p = vec (upto 0 (bNot p) p) by rw [upto_zero]] at H
 refine c_loop (σ := Nat) (fun s_ a w => match s_ with | i => SL a 18 [] [(3, .pointer (some ⟨g1, 0, none⟩)), (8, .int .i64 (i : Int))] ∧ HH (B) wb w ((g1, .cells (vec (upto i (bNot p) p)).toArray 99 (0, 0)) :: L0) ∧ (i ≤ 256)) (fun s_ => match s_ with | i => 256 - i) 0 ⟨S.only ⟨rfl, rfl, trivial⟩, H, Nat.zero_le _⟩ ?_
 clear S a H; rintro i a w ⟨S, H, hinv⟩
 refine wp_seq ?_
 refine c_region ?_
 refine l_pure S (p_lss rfl rfl) rfl rfl rfl ?_; clear S a; intro a S
 refine l_nil ?_
 refine e_then ?_
 refine wp_seq ?_
 refine c_cond S rfl (fun bc3 => ?_) (fun bc3 => ?_)
 ·
  have c3 := bc3
  have c3 := of_decide_eq_true c3
  refine wp_skip ?_
  refine e_then ?_
  refine wp_seq ?_
  refine wp_block ?_
  refine wp_seq ?_
  refine c_region ?_
  refine l_pure S (p_move rfl) rfl rfl rfl ?_; clear S a; intro a S
  refine l_pure S (p_assign rfl) rfl rfl rfl ?_; clear S a; intro a S
  refine l_nil ?_
  refine e_then ?_
  refine c_region ?_
  refine l_pure S (p_move rfl) rfl rfl rfl ?_; clear S a; intro a S
  refine l_pure S (p_move rfl) rfl rfl rfl ?_; clear S a; intro a S
  refine l_pure S (p_indexAddr rfl rfl (fun w => ia_array Tryd.underlying99 sz4 (by omega) (by omega))) rfl rfl rfl ?_; clear S a; intro a S
  refine l_read S H (r_load (v := .bool (p i)) rfl List.mem_cons_self (vec_arr (upto i (bNot p) p) (by omega) (upto_at i _ _)) (fun w hc => ld1 ag4 hc)) rfl rfl rfl ?_; clear S a; intro a S
  refine l_pure S (p_not rfl) rfl rfl rfl ?_; clear S a; intro a S
  refine l_pure S (p_indexAddr rfl rfl (fun w => ia_array Tryd.underlying99 sz4 (by omega) (by omega))) rfl rfl rfl ?_; clear S a; intro a S
  refine l_store S H rfl rfl rfl .here (by simp [vec_len]; omega) (fun w u hc hz => st1 sz4 rfl hc hz) rfl rfl ?_; clear S a H; intro w a H S
  have e0 : 0 + (i : Int).toNat * 1 = i := by omega
  rw [e0, vec_set, upto_succ i (bNot p) p (by simp_all [bOr, bAnd, bNot])] at H
  refine l_nil ?_
  refine e_in 1 ?_
  refine e_then ?_
  refine c_region ?_
  refine l_pure S (p_add rfl rfl (nat_add (x := i) (y := 1) (by omega))) rfl rfl rfl ?_; clear S a; intro a S
  refine l_pure S (p_move rfl) rfl rfl rfl ?_; clear S a; intro a S
  refine l_nil ?_
  refine e_then ?_
  exact ⟨(i + 1), ⟨S.only ⟨rfl, rfl, trivial⟩, H, by omega⟩, by show 256 - (i + 1) < 256 - i; omega⟩
 ·
  have c3 := bc3
  have c3 := of_decide_eq_false c3
  refine wp_exit ?_
  refine e_then_exit ?_
  refine e_then_exit ?_
  refine e_in_exit ?_
  refine e_then ?_
  refine wp_seq ?_
  refine c_region ?_
  refine l_pure S (p_assign rfl) rfl rfl rfl ?_; clear S a; intro a S
  refine l_nil ?_
  refine e_then ?_
  refine wp_ret ?_
  rw [show vec (upto i (bNot p) p) = vec (bNot p) from vec_ext (fun j hj => by simp [upto, show j < i by omega])] at H
  exact r_ret1 S rfl rfl ⟨g1, rfl, H⟩
theorem bwo (wb w0 : World) (B : Nat) (L0 : List (Nat × Obj)) (gp gq : Nat) (p q : Nat → Bool) (hgp : (gp, Obj.cells (vec p).toArray 99 (0, 0)) ∈ L0) (hgq : (gq, Obj.cells (vec q).toArray 99 (0, 0)) ∈ L0) (H : HH B wb w0 L0) : Calls Tryd.prog 65 #[.pointer (some ⟨gp, 0, none⟩), .pointer (some ⟨gq, 0, none⟩)] w0 fun e w' => ∃ g, e = .returned (.pointer (some ⟨g, 0, none⟩)) ∧ HH B wb w' ((g, .cells (vec (bAnd p (bNot q))).toArray 99 (0, 0)) :: L0) := by
 refine c_enter (args := [.pointer (some ⟨gp, 0, none⟩), .pointer (some ⟨gq, 0, none⟩)]) (k := 7) Tryd.func65 rfl rfl rfl (fun a S => ?_)
 refine wp_seq ?_
 refine c_region ?_
 refine l_pure S (p_assign rfl) rfl rfl rfl ?_; clear S a; intro a S
 refine l_nil ?_
 refine e_then ?_
 refine wp_seq ?_
 refine c_region ?_
 refine l_pure S (p_move rfl) rfl rfl rfl ?_; clear S a; intro a S
 refine l_pure S (p_move rfl) rfl rfl rfl ?_; clear S a; intro a S
 have hcon := binv wb _ B _ gq q hgq H
 refine l_call S rfl rfl Tryd.func63 rfl rfl (hcon) rfl rfl rfl ?_
 rintro e w ⟨q1, rfl, hH⟩
 refine ⟨_, rfl, ?_⟩; clear S a; intro a S
 clear H hcon; have H := hH; clear hH
 have hcon := binter wb _ B _ gp q1 p _ (List.mem_cons_of_mem _ hgp) List.mem_cons_self H
 refine l_call S rfl rfl Tryd.func71 rfl rfl (hcon) rfl rfl rfl ?_
 rintro e w ⟨q2, rfl, hH⟩
 refine ⟨_, rfl, ?_⟩; clear S a; intro a S
 clear H hcon; have H := hH; clear hH
 refine l_pure S (p_assign rfl) rfl rfl rfl ?_; clear S a; intro a S
 refine l_nil ?_
 refine e_then ?_
 refine wp_ret ?_
 exact r_ret1 S rfl rfl ⟨q2, rfl, H.sub (.cons_cons _ (.cons _ (.refl _)))⟩
theorem e_fieldSeparatorSpace : (List.range 256).all (fun i => (ofs ⟨#[32]⟩) i == sIn 0 i) = true := by decide +kernel
theorem b_fieldSeparatorSpace (wb w0 : World) (B : Nat) (L0 : List (Nat × Obj)) (H : HH B wb w0 L0) : Calls Tryd.prog 42 #[] w0 fun e w' => ∃ g, e = .returned (.pointer (some ⟨g, 0, none⟩)) ∧ HH B wb w' ((g, .cells (vec (sIn 0)).toArray 99 (0, 0)) :: L0) := by
 refine c_enter (args := []) (k := 2) Tryd.func42 rfl rfl rfl (fun a S => ?_)
 refine wp_seq ?_
 refine c_region ?_
 refine l_pure S (p_assign rfl) rfl rfl rfl ?_; clear S a; intro a S
 refine l_nil ?_
 refine e_then ?_
 refine wp_seq ?_
 refine c_region ?_
 have hcon := bnew wb _ B _ ⟨#[32]⟩ (by decide) H
 refine l_call S rfl rfl Tryd.func61 rfl rfl (hcon) rfl rfl rfl ?_
 rintro e w ⟨q1, rfl, hH⟩
 refine ⟨_, rfl, ?_⟩; clear S a; intro a S
 clear H hcon; have H := hH; clear hH
 refine l_pure S (p_assign rfl) rfl rfl rfl ?_; clear S a; intro a S
 refine l_nil ?_
 refine e_then ?_
 refine wp_ret ?_
 replace H := H.sub (.cons_cons _ (.refl _))
 rw [show vec (ofs ⟨#[32]⟩) = vec (sIn 0) from vec_ext (all256 e_fieldSeparatorSpace)] at H
 exact r_ret1 S rfl rfl ⟨_, rfl, H⟩
theorem e_whitespace : (List.range 256).all (fun i => (bOr (sIn 0) (ofs ⟨#[13, 10]⟩)) i == sIn 1 i) = true := by decide +kernel
theorem b_whitespace (wb w0 : World) (B : Nat) (L0 : List (Nat × Obj)) (H : HH B wb w0 L0) : Calls Tryd.prog 43 #[] w0 fun e w' => ∃ g, e = .returned (.pointer (some ⟨g, 0, none⟩)) ∧ HH B wb w' ((g, .cells (vec (sIn 1)).toArray 99 (0, 0)) :: L0) := by
 refine c_enter (args := []) (k := 4) Tryd.func43 rfl rfl rfl (fun a S => ?_)
 refine wp_seq ?_
 refine c_region ?_
 refine l_pure S (p_assign rfl) rfl rfl rfl ?_; clear S a; intro a S
 refine l_nil ?_
 refine e_then ?_
 refine wp_seq ?_
 refine c_region ?_
 have hcon := b_fieldSeparatorSpace wb _ B _ H
 refine l_call S rfl rfl Tryd.func42 rfl rfl (hcon) rfl rfl rfl ?_
 rintro e w ⟨q1, rfl, hH⟩
 refine ⟨_, rfl, ?_⟩; clear S a; intro a S
 clear H hcon; have H := hH; clear hH
 have hcon := bnew wb _ B _ ⟨#[13, 10]⟩ (by decide) H
 refine l_call S rfl rfl Tryd.func61 rfl rfl (hcon) rfl rfl rfl ?_
 rintro e w ⟨q2, rfl, hH⟩
 refine ⟨_, rfl, ?_⟩; clear S a; intro a S
 clear H hcon; have H := hH; clear hH
 have hcon := bunion wb _ B _ _ _ _ _ (List.mem_cons_of_mem _ List.mem_cons_self) List.mem_cons_self H
 refine l_call S rfl rfl Tryd.func62 rfl rfl (hcon) rfl rfl rfl ?_
 rintro e w ⟨q3, rfl, hH⟩
 refine ⟨_, rfl, ?_⟩; clear S a; intro a S
 clear H hcon; have H := hH; clear hH
 refine l_pure S (p_assign rfl) rfl rfl rfl ?_; clear S a; intro a S
 refine l_nil ?_
 refine e_then ?_
 refine wp_ret ?_
 replace H := H.sub (.cons_cons _ (.cons _ (.cons _ (.refl _))))
 rw [show vec (bOr (sIn 0) (ofs ⟨#[13, 10]⟩)) = vec (sIn 1) from vec_ext (all256 e_whitespace)] at H
 exact r_ret1 S rfl rfl ⟨_, rfl, H⟩
theorem e_nonPrintable : (List.range 256).all (fun i => (bOr (upto 32 (fun _ => true) (fun _ => false)) (ofs ⟨#[127]⟩)) i == sIn 3 i) = true := by decide +kernel
theorem b_nonPrintable (wb w0 : World) (B : Nat) (L0 : List (Nat × Obj)) (H : HH B wb w0 L0) : Calls Tryd.prog 45 #[] w0 fun e w' => ∃ g, e = .returned (.pointer (some ⟨g, 0, none⟩)) ∧ HH B wb w' ((g, .cells (vec (sIn 3)).toArray 99 (0, 0)) :: L0) := by
 refine c_enter (args := []) (k := 4) Tryd.func45 rfl rfl rfl (fun a S => ?_)
 refine wp_seq ?_
 refine c_region ?_
 refine l_pure S (p_assign rfl) rfl rfl rfl ?_; clear S a; intro a S
 refine l_nil ?_
 refine e_then ?_
 refine wp_seq ?_
 refine c_region ?_
 have hcon := brange wb _ B _ H
 refine l_call S rfl rfl Tryd.func64 rfl rfl (hcon) rfl rfl rfl ?_
 rintro e w ⟨q1, rfl, hH⟩
 refine ⟨_, rfl, ?_⟩; clear S a; intro a S
 clear H hcon; have H := hH; clear hH
 have hcon := bnew wb _ B _ ⟨#[127]⟩ (by decide) H
 refine l_call S rfl rfl Tryd.func61 rfl rfl (hcon) rfl rfl rfl ?_
 rintro e w ⟨q2, rfl, hH⟩
 refine ⟨_, rfl, ?_⟩; clear S a; intro a S
 clear H hcon; have H := hH; clear hH
 have hcon := bunion wb _ B _ _ _ _ _ (List.mem_cons_of_mem _ List.mem_cons_self) List.mem_cons_self H
 refine l_call S rfl rfl Tryd.func62 rfl rfl (hcon) rfl rfl rfl ?_
 rintro e w ⟨q3, rfl, hH⟩
 refine ⟨_, rfl, ?_⟩; clear S a; intro a S
 clear H hcon; have H := hH; clear hH
 refine l_pure S (p_assign rfl) rfl rfl rfl ?_; clear S a; intro a S
 refine l_nil ?_
 refine e_then ?_
 refine wp_ret ?_
 replace H := H.sub (.cons_cons _ (.cons _ (.cons _ (.refl _))))
 rw [show vec (bOr (upto 32 (fun _ => true) (fun _ => false)) (ofs ⟨#[127]⟩)) = vec (sIn 3) from vec_ext (all256 e_nonPrintable)] at H
 exact r_ret1 S rfl rfl ⟨_, rfl, H⟩
theorem e_tagKeyChars : (List.range 256).all (fun i => (bNot (bOr (bOr (ofs ⟨#[44, 61]⟩) (sIn 1)) (sIn 3))) i == sIn 2 i) = true := by decide +kernel
theorem b_tagKeyChars (wb w0 : World) (B : Nat) (L0 : List (Nat × Obj)) (H : HH B wb w0 L0) : Calls Tryd.prog 44 #[] w0 fun e w' => ∃ g, e = .returned (.pointer (some ⟨g, 0, none⟩)) ∧ HH B wb w' ((g, .cells (vec (sIn 2)).toArray 99 (0, 0)) :: L0) := by
 refine c_enter (args := []) (k := 7) Tryd.func44 rfl rfl rfl (fun a S => ?_)
 refine wp_seq ?_
 refine c_region ?_
 refine l_pure S (p_assign rfl) rfl rfl rfl ?_; clear S a; intro a S
 refine l_nil ?_
 refine e_then ?_
 refine wp_seq ?_
 refine c_region ?_
 have hcon := bnew wb _ B _ ⟨#[44, 61]⟩ (by decide) H
 refine l_call S rfl rfl Tryd.func61 rfl rfl (hcon) rfl rfl rfl ?_
 rintro e w ⟨q1, rfl, hH⟩
 refine ⟨_, rfl, ?_⟩; clear S a; intro a S
 clear H hcon; have H := hH; clear hH
 have hcon := b_whitespace wb _ B _ H
 refine l_call S rfl rfl Tryd.func43 rfl rfl (hcon) rfl rfl rfl ?_
 rintro e w ⟨q2, rfl, hH⟩
 refine ⟨_, rfl, ?_⟩; clear S a; intro a S
 clear H hcon; have H := hH; clear hH
 have hcon := bunion wb _ B _ _ _ _ _ (List.mem_cons_of_mem _ List.mem_cons_self) List.mem_cons_self H
 refine l_call S rfl rfl Tryd.func62 rfl rfl (hcon) rfl rfl rfl ?_
 rintro e w ⟨q3, rfl, hH⟩
 refine ⟨_, rfl, ?_⟩; clear S a; intro a S
 clear H hcon; have H := hH; clear hH
 have hcon := b_nonPrintable wb _ B _ H
 refine l_call S rfl rfl Tryd.func45 rfl rfl (hcon) rfl rfl rfl ?_
 rintro e w ⟨q4, rfl, hH⟩
 refine ⟨_, rfl, ?_⟩; clear S a; intro a S
 clear H hcon; have H := hH; clear hH
 have hcon := bunion wb _ B _ _ _ _ _ (List.mem_cons_of_mem _ List.mem_cons_self) List.mem_cons_self H
 refine l_call S rfl rfl Tryd.func62 rfl rfl (hcon) rfl rfl rfl ?_
 rintro e w ⟨q5, rfl, hH⟩
 refine ⟨_, rfl, ?_⟩; clear S a; intro a S
 clear H hcon; have H := hH; clear hH
 have hcon := binv wb _ B _ _ _ List.mem_cons_self H
 refine l_call S rfl rfl Tryd.func63 rfl rfl (hcon) rfl rfl rfl ?_
 rintro e w ⟨q6, rfl, hH⟩
 refine ⟨_, rfl, ?_⟩; clear S a; intro a S
 clear H hcon; have H := hH; clear hH
 refine l_pure S (p_assign rfl) rfl rfl rfl ?_; clear S a; intro a S
 refine l_nil ?_
 refine e_then ?_
 refine wp_ret ?_
 replace H := H.sub (.cons_cons _ (.cons _ (.cons _ (.cons _ (.cons _ (.cons _ (.refl _)))))))
 rw [show vec (bNot (bOr (bOr (ofs ⟨#[44, 61]⟩) (sIn 1)) (sIn 3))) = vec (sIn 2) from vec_ext (all256 e_tagKeyChars)] at H
 exact r_ret1 S rfl rfl ⟨_, rfl, H⟩
theorem e_eolChars : (List.range 256).all (fun i => (ofs ⟨#[13, 10]⟩) i == sIn 4 i) = true := by decide +kernel
theorem b_eolChars (wb w0 : World) (B : Nat) (L0 : List (Nat × Obj)) (H : HH B wb w0 L0) : Calls Tryd.prog 46 #[] w0 fun e w' => ∃ g, e = .returned (.pointer (some ⟨g, 0, none⟩)) ∧ HH B wb w' ((g, .cells (vec (sIn 4)).toArray 99 (0, 0)) :: L0) := by
 refine c_enter (args := []) (k := 2) Tryd.func46 rfl rfl rfl (fun a S => ?_)
 refine wp_seq ?_
 refine c_region ?_
 refine l_pure S (p_assign rfl) rfl rfl rfl ?_; clear S a; intro a S
 refine l_nil ?_
 refine e_then ?_
 refine wp_seq ?_
 refine c_region ?_
 have hcon := bnew wb _ B _ ⟨#[13, 10]⟩ (by decide) H
 refine l_call S rfl rfl Tryd.func61 rfl rfl (hcon) rfl rfl rfl ?_
 rintro e w ⟨q1, rfl, hH⟩
 refine ⟨_, rfl, ?_⟩; clear S a; intro a S
 clear H hcon; have H := hH; clear hH
 refine l_pure S (p_assign rfl) rfl rfl rfl ?_; clear S a; intro a S
 refine l_nil ?_
 refine e_then ?_
 refine wp_ret ?_
 replace H := H.sub (.cons_cons _ (.refl _))
 rw [show vec (ofs ⟨#[13, 10]⟩) = vec (sIn 4) from vec_ext (all256 e_eolChars)] at H
 exact r_ret1 S rfl rfl ⟨_, rfl, H⟩
theorem e_measurementChars : (List.range 256).all (fun i => (bNot (bOr (ofs ⟨#[44, 32]⟩) (sIn 3))) i == sIn 5 i) = true := by decide +kernel
theorem b_measurementChars (wb w0 : World) (B : Nat) (L0 : List (Nat × Obj)) (H : HH B wb w0 L0) : Calls Tryd.prog 47 #[] w0 fun e w' => ∃ g, e = .returned (.pointer (some ⟨g, 0, none⟩)) ∧ HH B wb w' ((g, .cells (vec (sIn 5)).toArray 99 (0, 0)) :: L0) := by
 refine c_enter (args := []) (k := 5) Tryd.func47 rfl rfl rfl (fun a S => ?_)
 refine wp_seq ?_
 refine c_region ?_
 refine l_pure S (p_assign rfl) rfl rfl rfl ?_; clear S a; intro a S
 refine l_nil ?_
 refine e_then ?_
 refine wp_seq ?_
 refine c_region ?_
 have hcon := bnew wb _ B _ ⟨#[44, 32]⟩ (by decide) H
 refine l_call S rfl rfl Tryd.func61 rfl rfl (hcon) rfl rfl rfl ?_
 rintro e w ⟨q1, rfl, hH⟩
 refine ⟨_, rfl, ?_⟩; clear S a; intro a S
 clear H hcon; have H := hH; clear hH
 have hcon := b_nonPrintable wb _ B _ H
 refine l_call S rfl rfl Tryd.func45 rfl rfl (hcon) rfl rfl rfl ?_
 rintro e w ⟨q2, rfl, hH⟩
 refine ⟨_, rfl, ?_⟩; clear S a; intro a S
 clear H hcon; have H := hH; clear hH
 have hcon := bunion wb _ B _ _ _ _ _ (List.mem_cons_of_mem _ List.mem_cons_self) List.mem_cons_self H
 refine l_call S rfl rfl Tryd.func62 rfl rfl (hcon) rfl rfl rfl ?_
 rintro e w ⟨q3, rfl, hH⟩
 refine ⟨_, rfl, ?_⟩; clear S a; intro a S
 clear H hcon; have H := hH; clear hH
 have hcon := binv wb _ B _ _ _ List.mem_cons_self H
 refine l_call S rfl rfl Tryd.func63 rfl rfl (hcon) rfl rfl rfl ?_
 rintro e w ⟨q4, rfl, hH⟩
 refine ⟨_, rfl, ?_⟩; clear S a; intro a S
 clear H hcon; have H := hH; clear hH
 refine l_pure S (p_assign rfl) rfl rfl rfl ?_; clear S a; intro a S
 refine l_nil ?_
 refine e_then ?_
 refine wp_ret ?_
 replace H := H.sub (.cons_cons _ (.cons _ (.cons _ (.cons _ (.refl _)))))
 rw [show vec (bNot (bOr (ofs ⟨#[44, 32]⟩) (sIn 3))) = vec (sIn 5) from vec_ext (all256 e_measurementChars)] at H
 exact r_ret1 S rfl rfl ⟨_, rfl, H⟩
theorem e_tagValChars : (List.range 256).all (fun i => (bNot (bOr (bOr (ofs ⟨#[44, 61]⟩) (sIn 1)) (sIn 3))) i == sIn 6 i) = true := by decide +kernel
theorem b_tagValChars (wb w0 : World) (B : Nat) (L0 : List (Nat × Obj)) (H : HH B wb w0 L0) : Calls Tryd.prog 48 #[] w0 fun e w' => ∃ g, e = .returned (.pointer (some ⟨g, 0, none⟩)) ∧ HH B wb w' ((g, .cells (vec (sIn 6)).toArray 99 (0, 0)) :: L0) := by
 refine c_enter (args := []) (k := 7) Tryd.func48 rfl rfl rfl (fun a S => ?_)
 refine wp_seq ?_
 refine c_region ?_
 refine l_pure S (p_assign rfl) rfl rfl rfl ?_; clear S a; intro a S
 refine l_nil ?_
 refine e_then ?_
 refine wp_seq ?_
 refine c_region ?_
 have hcon := bnew wb _ B _ ⟨#[44, 61]⟩ (by decide) H
 refine l_call S rfl rfl Tryd.func61 rfl rfl (hcon) rfl rfl rfl ?_
 rintro e w ⟨q1, rfl, hH⟩
 refine ⟨_, rfl, ?_⟩; clear S a; intro a S
 clear H hcon; have H := hH; clear hH
 have hcon := b_whitespace wb _ B _ H
 refine l_call S rfl rfl Tryd.func43 rfl rfl (hcon) rfl rfl rfl ?_
 rintro e w ⟨q2, rfl, hH⟩
 refine ⟨_, rfl, ?_⟩; clear S a; intro a S
 clear H hcon; have H := hH; clear hH
 have hcon := bunion wb _ B _ _ _ _ _ (List.mem_cons_of_mem _ List.mem_cons_self) List.mem_cons_self H
 refine l_call S rfl rfl Tryd.func62 rfl rfl (hcon) rfl rfl rfl ?_
 rintro e w ⟨q3, rfl, hH⟩
 refine ⟨_, rfl, ?_⟩; clear S a; intro a S
 clear H hcon; have H := hH; clear hH
 have hcon := b_nonPrintable wb _ B _ H
 refine l_call S rfl rfl Tryd.func45 rfl rfl (hcon) rfl rfl rfl ?_
 rintro e w ⟨q4, rfl, hH⟩
 refine ⟨_, rfl, ?_⟩; clear S a; intro a S
 clear H hcon; have H := hH; clear hH
 have hcon := bunion wb _ B _ _ _ _ _ (List.mem_cons_of_mem _ List.mem_cons_self) List.mem_cons_self H
 refine l_call S rfl rfl Tryd.func62 rfl rfl (hcon) rfl rfl rfl ?_
 rintro e w ⟨q5, rfl, hH⟩
 refine ⟨_, rfl, ?_⟩; clear S a; intro a S
 clear H hcon; have H := hH; clear hH
 have hcon := binv wb _ B _ _ _ List.mem_cons_self H
 refine l_call S rfl rfl Tryd.func63 rfl rfl (hcon) rfl rfl rfl ?_
 rintro e w ⟨q6, rfl, hH⟩
 refine ⟨_, rfl, ?_⟩; clear S a; intro a S
 clear H hcon; have H := hH; clear hH
 refine l_pure S (p_assign rfl) rfl rfl rfl ?_; clear S a; intro a S
 refine l_nil ?_
 refine e_then ?_
 refine wp_ret ?_
 replace H := H.sub (.cons_cons _ (.cons _ (.cons _ (.cons _ (.cons _ (.cons _ (.refl _)))))))
 rw [show vec (bNot (bOr (bOr (ofs ⟨#[44, 61]⟩) (sIn 1)) (sIn 3))) = vec (sIn 6) from vec_ext (all256 e_tagValChars)] at H
 exact r_ret1 S rfl rfl ⟨_, rfl, H⟩
theorem e_fieldKeyChars : (List.range 256).all (fun i => (sIn 2) i == sIn 7 i) = true := by decide +kernel
theorem b_fieldKeyChars (wb w0 : World) (B : Nat) (L0 : List (Nat × Obj)) (H : HH B wb w0 L0) : Calls Tryd.prog 49 #[] w0 fun e w' => ∃ g, e = .returned (.pointer (some ⟨g, 0, none⟩)) ∧ HH B wb w' ((g, .cells (vec (sIn 7)).toArray 99 (0, 0)) :: L0) := by
 refine c_enter (args := []) (k := 2) Tryd.func49 rfl rfl rfl (fun a S => ?_)
 refine wp_seq ?_
 refine c_region ?_
 refine l_pure S (p_assign rfl) rfl rfl rfl ?_; clear S a; intro a S
 refine l_nil ?_
 refine e_then ?_
 refine wp_seq ?_
 refine c_region ?_
 have hcon := b_tagKeyChars wb _ B _ H
 refine l_call S rfl rfl Tryd.func44 rfl rfl (hcon) rfl rfl rfl ?_
 rintro e w ⟨q1, rfl, hH⟩
 refine ⟨_, rfl, ?_⟩; clear S a; intro a S
 clear H hcon; have H := hH; clear hH
 refine l_pure S (p_assign rfl) rfl rfl rfl ?_; clear S a; intro a S
 refine l_nil ?_
 refine e_then ?_
 refine wp_ret ?_
 replace H := H.sub (.cons_cons _ (.refl _))
 rw [show vec (sIn 2) = vec (sIn 7) from vec_ext (all256 e_fieldKeyChars)] at H
 exact r_ret1 S rfl rfl ⟨_, rfl, H⟩
theorem e_fieldStringValChars : (List.range 256).all (fun i => (bNot (ofs ⟨#[34]⟩)) i == sIn 8 i) = true := by decide +kernel
theorem b_fieldStringValChars (wb w0 : World) (B : Nat) (L0 : List (Nat × Obj)) (H : HH B wb w0 L0) : Calls Tryd.prog 50 #[] w0 fun e w' => ∃ g, e = .returned (.pointer (some ⟨g, 0, none⟩)) ∧ HH B wb w' ((g, .cells (vec (sIn 8)).toArray 99 (0, 0)) :: L0) := by
 refine c_enter (args := []) (k := 3) Tryd.func50 rfl rfl rfl (fun a S => ?_)
 refine wp_seq ?_
 refine c_region ?_
 refine l_pure S (p_assign rfl) rfl rfl rfl ?_; clear S a; intro a S
 refine l_nil ?_
 refine e_then ?_
 refine wp_seq ?_
 refine c_region ?_
 have hcon := bnew wb _ B _ ⟨#[34]⟩ (by decide) H
 refine l_call S rfl rfl Tryd.func61 rfl rfl (hcon) rfl rfl rfl ?_
 rintro e w ⟨q1, rfl, hH⟩
 refine ⟨_, rfl, ?_⟩; clear S a; intro a S
 clear H hcon; have H := hH; clear hH
 have hcon := binv wb _ B _ _ _ List.mem_cons_self H
 refine l_call S rfl rfl Tryd.func63 rfl rfl (hcon) rfl rfl rfl ?_
 rintro e w ⟨q2, rfl, hH⟩
 refine ⟨_, rfl, ?_⟩; clear S a; intro a S
 clear H hcon; have H := hH; clear hH
 refine l_pure S (p_assign rfl) rfl rfl rfl ?_; clear S a; intro a S
 refine l_nil ?_
 refine e_then ?_
 refine wp_ret ?_
 replace H := H.sub (.cons_cons _ (.cons _ (.refl _)))
 rw [show vec (bNot (ofs ⟨#[34]⟩)) = vec (sIn 8) from vec_ext (all256 e_fieldStringValChars)] at H
 exact r_ret1 S rfl rfl ⟨_, rfl, H⟩
theorem e_fieldValChars : (List.range 256).all (fun i => (bNot (bOr (ofs ⟨#[44]⟩) (sIn 1))) i == sIn 9 i) = true := by decide +kernel
theorem b_fieldValChars (wb w0 : World) (B : Nat) (L0 : List (Nat × Obj)) (H : HH B wb w0 L0) : Calls Tryd.prog 51 #[] w0 fun e w' => ∃ g, e = .returned (.pointer (some ⟨g, 0, none⟩)) ∧ HH B wb w' ((g, .cells (vec (sIn 9)).toArray 99 (0, 0)) :: L0) := by
 refine c_enter (args := []) (k := 5) Tryd.func51 rfl rfl rfl (fun a S => ?_)
 refine wp_seq ?_
 refine c_region ?_
 refine l_pure S (p_assign rfl) rfl rfl rfl ?_; clear S a; intro a S
 refine l_nil ?_
 refine e_then ?_
 refine wp_seq ?_
 refine c_region ?_
 have hcon := bnew wb _ B _ ⟨#[44]⟩ (by decide) H
 refine l_call S rfl rfl Tryd.func61 rfl rfl (hcon) rfl rfl rfl ?_
 rintro e w ⟨q1, rfl, hH⟩
 refine ⟨_, rfl, ?_⟩; clear S a; intro a S
 clear H hcon; have H := hH; clear hH
 have hcon := b_whitespace wb _ B _ H
 refine l_call S rfl rfl Tryd.func43 rfl rfl (hcon) rfl rfl rfl ?_
 rintro e w ⟨q2, rfl, hH⟩
 refine ⟨_, rfl, ?_⟩; clear S a; intro a S
 clear H hcon; have H := hH; clear hH
 have hcon := bunion wb _ B _ _ _ _ _ (List.mem_cons_of_mem _ List.mem_cons_self) List.mem_cons_self H
 refine l_call S rfl rfl Tryd.func62 rfl rfl (hcon) rfl rfl rfl ?_
 rintro e w ⟨q3, rfl, hH⟩
 refine ⟨_, rfl, ?_⟩; clear S a; intro a S
 clear H hcon; have H := hH; clear hH
 have hcon := binv wb _ B _ _ _ List.mem_cons_self H
 refine l_call S rfl rfl Tryd.func63 rfl rfl (hcon) rfl rfl rfl ?_
 rintro e w ⟨q4, rfl, hH⟩
 refine ⟨_, rfl, ?_⟩; clear S a; intro a S
 clear H hcon; have H := hH; clear hH
 refine l_pure S (p_assign rfl) rfl rfl rfl ?_; clear S a; intro a S
 refine l_nil ?_
 refine e_then ?_
 refine wp_ret ?_
 replace H := H.sub (.cons_cons _ (.cons _ (.cons _ (.cons _ (.refl _)))))
 rw [show vec (bNot (bOr (ofs ⟨#[44]⟩) (sIn 1))) = vec (sIn 9) from vec_ext (all256 e_fieldValChars)] at H
 exact r_ret1 S rfl rfl ⟨_, rfl, H⟩
theorem e_timeChars : (List.range 256).all (fun i => (ofs ⟨#[45, 48, 49, 50, 51, 52, 53, 54, 55, 56, 57]⟩) i == sIn 10 i) = true := by decide +kernel
theorem b_timeChars (wb w0 : World) (B : Nat) (L0 : List (Nat × Obj)) (H : HH B wb w0 L0) : Calls Tryd.prog 52 #[] w0 fun e w' => ∃ g, e = .returned (.pointer (some ⟨g, 0, none⟩)) ∧ HH B wb w' ((g, .cells (vec (sIn 10)).toArray 99 (0, 0)) :: L0) := by
 refine c_enter (args := []) (k := 2) Tryd.func52 rfl rfl rfl (fun a S => ?_)
 refine wp_seq ?_
 refine c_region ?_
 refine l_pure S (p_assign rfl) rfl rfl rfl ?_; clear S a; intro a S
 refine l_nil ?_
 refine e_then ?_
 refine wp_seq ?_
 refine c_region ?_
 have hcon := bnew wb _ B _ ⟨#[45, 48, 49, 50, 51, 52, 53, 54, 55, 56, 57]⟩ (by decide) H
 refine l_call S rfl rfl Tryd.func61 rfl rfl (hcon) rfl rfl rfl ?_
 rintro e w ⟨q1, rfl, hH⟩
 refine ⟨_, rfl, ?_⟩; clear S a; intro a S
 clear H hcon; have H := hH; clear hH
 refine l_pure S (p_assign rfl) rfl rfl rfl ?_; clear S a; intro a S
 refine l_nil ?_
 refine e_then ?_
 refine wp_ret ?_
 replace H := H.sub (.cons_cons _ (.refl _))
 rw [show vec (ofs ⟨#[45, 48, 49, 50, 51, 52, 53, 54, 55, 56, 57]⟩) = vec (sIn 10) from vec_ext (all256 e_timeChars)] at H
 exact r_ret1 S rfl rfl ⟨_, rfl, H⟩
theorem e_commentChars : (List.range 256).all (fun i => (bAnd (bNot (sIn 3)) (bNot (sIn 4))) i == sIn 11 i) = true := by decide +kernel
theorem b_commentChars (wb w0 : World) (B : Nat) (L0 : List (Nat × Obj)) (H : HH B wb w0 L0) : Calls Tryd.prog 53 #[] w0 fun e w' => ∃ g, e = .returned (.pointer (some ⟨g, 0, none⟩)) ∧ HH B wb w' ((g, .cells (vec (sIn 11)).toArray 99 (0, 0)) :: L0) := by
 refine c_enter (args := []) (k := 5) Tryd.func53 rfl rfl rfl (fun a S => ?_)
 refine wp_seq ?_
 refine c_region ?_
 refine l_pure S (p_assign rfl) rfl rfl rfl ?_; clear S a; intro a S
 refine l_nil ?_
 refine e_then ?_
 refine wp_seq ?_
 refine c_region ?_
 have hcon := b_nonPrintable wb _ B _ H
 refine l_call S rfl rfl Tryd.func45 rfl rfl (hcon) rfl rfl rfl ?_
 rintro e w ⟨q1, rfl, hH⟩
 refine ⟨_, rfl, ?_⟩; clear S a; intro a S
 clear H hcon; have H := hH; clear hH
 have hcon := binv wb _ B _ _ _ List.mem_cons_self H
 refine l_call S rfl rfl Tryd.func63 rfl rfl (hcon) rfl rfl rfl ?_
 rintro e w ⟨q2, rfl, hH⟩
 refine ⟨_, rfl, ?_⟩; clear S a; intro a S
 clear H hcon; have H := hH; clear hH
 have hcon := b_eolChars wb _ B _ H
 refine l_call S rfl rfl Tryd.func46 rfl rfl (hcon) rfl rfl rfl ?_
 rintro e w ⟨q3, rfl, hH⟩
 refine ⟨_, rfl, ?_⟩; clear S a; intro a S
 clear H hcon; have H := hH; clear hH
 have hcon := bwo wb _ B _ _ _ _ _ (List.mem_cons_of_mem _ List.mem_cons_self) List.mem_cons_self H
 refine l_call S rfl rfl Tryd.func65 rfl rfl (hcon) rfl rfl rfl ?_
 rintro e w ⟨q4, rfl, hH⟩
 refine ⟨_, rfl, ?_⟩; clear S a; intro a S
 clear H hcon; have H := hH; clear hH
 refine l_pure S (p_assign rfl) rfl rfl rfl ?_; clear S a; intro a S
 refine l_nil ?_
 refine e_then ?_
 refine wp_ret ?_
 replace H := H.sub (.cons_cons _ (.cons _ (.cons _ (.cons _ (.refl _)))))
 rw [show vec (bAnd (bNot (sIn 3)) (bNot (sIn 4))) = vec (sIn 11) from vec_ext (all256 e_commentChars)] at H
 exact r_ret1 S rfl rfl ⟨_, rfl, H⟩
theorem e_notEOL : (List.range 256).all (fun i => (bNot (sIn 4)) i == sIn 12 i) = true := by decide +kernel
theorem b_notEOL (wb w0 : World) (B : Nat) (L0 : List (Nat × Obj)) (H : HH B wb w0 L0) : Calls Tryd.prog 54 #[] w0 fun e w' => ∃ g, e = .returned (.pointer (some ⟨g, 0, none⟩)) ∧ HH B wb w' ((g, .cells (vec (sIn 12)).toArray 99 (0, 0)) :: L0) := by
 refine c_enter (args := []) (k := 3) Tryd.func54 rfl rfl rfl (fun a S => ?_)
 refine wp_seq ?_
 refine c_region ?_
 refine l_pure S (p_assign rfl) rfl rfl rfl ?_; clear S a; intro a S
 refine l_nil ?_
 refine e_then ?_
 refine wp_seq ?_
 refine c_region ?_
 have hcon := b_eolChars wb _ B _ H
 refine l_call S rfl rfl Tryd.func46 rfl rfl (hcon) rfl rfl rfl ?_
 rintro e w ⟨q1, rfl, hH⟩
 refine ⟨_, rfl, ?_⟩; clear S a; intro a S
 clear H hcon; have H := hH; clear hH
 have hcon := binv wb _ B _ _ _ List.mem_cons_self H
 refine l_call S rfl rfl Tryd.func63 rfl rfl (hcon) rfl rfl rfl ?_
 rintro e w ⟨q2, rfl, hH⟩
 refine ⟨_, rfl, ?_⟩; clear S a; intro a S
 clear H hcon; have H := hH; clear hH
 refine l_pure S (p_assign rfl) rfl rfl rfl ?_; clear S a; intro a S
 refine l_nil ?_
 refine e_then ?_
 refine wp_ret ?_
 replace H := H.sub (.cons_cons _ (.cons _ (.refl _)))
 rw [show vec (bNot (sIn 4)) = vec (sIn 12) from vec_ext (all256 e_notEOL)] at H
 exact r_ret1 S rfl rfl ⟨_, rfl, H⟩
theorem e_notNewline : (List.range 256).all (fun i => (bNot (ofs ⟨#[10]⟩)) i == sIn 13 i) = true := by decide +kernel
theorem b_notNewline (wb w0 : World) (B : Nat) (L0 : List (Nat × Obj)) (H : HH B wb w0 L0) : Calls Tryd.prog 55 #[] w0 fun e w' => ∃ g, e = .returned (.pointer (some ⟨g, 0, none⟩)) ∧ HH B wb w' ((g, .cells (vec (sIn 13)).toArray 99 (0, 0)) :: L0) := by
 refine c_enter (args := []) (k := 3) Tryd.func55 rfl rfl rfl (fun a S => ?_)
 refine wp_seq ?_
 refine c_region ?_
 refine l_pure S (p_assign rfl) rfl rfl rfl ?_; clear S a; intro a S
 refine l_nil ?_
 refine e_then ?_
 refine wp_seq ?_
 refine c_region ?_
 have hcon := bnew wb _ B _ ⟨#[10]⟩ (by decide) H
 refine l_call S rfl rfl Tryd.func61 rfl rfl (hcon) rfl rfl rfl ?_
 rintro e w ⟨q1, rfl, hH⟩
 refine ⟨_, rfl, ?_⟩; clear S a; intro a S
 clear H hcon; have H := hH; clear hH
 have hcon := binv wb _ B _ _ _ List.mem_cons_self H
 refine l_call S rfl rfl Tryd.func63 rfl rfl (hcon) rfl rfl rfl ?_
 rintro e w ⟨q2, rfl, hH⟩
 refine ⟨_, rfl, ?_⟩; clear S a; intro a S
 clear H hcon; have H := hH; clear hH
 refine l_pure S (p_assign rfl) rfl rfl rfl ?_; clear S a; intro a S
 refine l_nil ?_
 refine e_then ?_
 refine wp_ret ?_
 replace H := H.sub (.cons_cons _ (.cons _ (.refl _)))
 rw [show vec (bNot (ofs ⟨#[10]⟩)) = vec (sIn 13) from vec_ext (all256 e_notNewline)] at H
 exact r_ret1 S rfl rfl ⟨_, rfl, H⟩
theorem bget (wb w0 : World) (B : Nat) (L0 : List (Nat × Obj)) (g x : Nat) (p : Nat → Bool) (hx : x < 256) (hg : (g, Obj.cells (vec p).toArray 99 (0, 0)) ∈ L0) (H : HH B wb w0 L0) : Calls Tryd.prog 37 #[.pointer (some ⟨g, 0, none⟩), .int .u8 (x : Int)] w0 fun e w' => e = .returned (.bool (p x)) ∧ HH B wb w' L0 := by
 refine c_enter (args := [.pointer (some ⟨g, 0, none⟩), .int .u8 (x : Int)]) (k := 8) Tryd.func37 rfl rfl rfl (fun a S => ?_)
 refine wp_seq ?_
 refine c_region ?_
 refine l_pure S (p_assign rfl) rfl rfl rfl ?_; clear S a; intro a S
 refine l_nil ?_
 refine e_then ?_
 refine wp_seq ?_
 refine c_region ?_
 refine l_pure S (p_move rfl) rfl rfl rfl ?_; clear S a; intro a S
 refine l_pure S (p_move rfl) rfl rfl rfl ?_; clear S a; intro a S
 refine l_pure S (p_nilCheck rfl) rfl rfl rfl ?_; clear S a; intro a S
 refine l_pure S (p_indexAddr rfl rfl (fun w => ia_array Tryd.underlying99 sz4 (by omega) (by omega))) rfl rfl rfl ?_; clear S a; intro a S
 refine l_read S H (r_bitM (i := x) rfl (by omega) hx ag4 hg) rfl rfl rfl ?_; clear S a; intro a S
 refine l_pure S (p_assign rfl) rfl rfl rfl ?_; clear S a; intro a S
 refine l_nil ?_
 refine e_then ?_
 refine wp_ret ?_
 exact r_ret1 S rfl rfl ⟨rfl, H⟩
theorem door_set (wb w0 : World) (B : Nat) (L0 : List (Nat × Obj)) (k : Nat) (hk : k < 14) (H : HH B wb w0 L0) : Calls Tryd.prog 26 #[.int .i64 (k : Int)] w0 fun e w' => ∃ g, e = .returned (.pointer (some ⟨g, 0, none⟩)) ∧ HH B wb w' ((g, .cells (vec (sIn k)).toArray 99 (0, 0)) :: L0) := by
 refine c_enter (args := [.int .i64 (k : Int)]) (k := 43) Tryd.func26 rfl rfl rfl (fun a S => ?_)
 refine wp_seq ?_
 refine c_region ?_
 refine l_pure S (p_assign rfl) rfl rfl rfl ?_; clear S a; intro a S
 refine l_nil ?_
 refine e_then ?_
 refine wp_seq ?_
 refine wp_seq ?_
 refine c_region ?_
 refine l_pure S (p_move rfl) rfl rfl rfl ?_; clear S a; intro a S
 refine l_nil ?_
 refine e_then ?_
 refine wp_block ?_
 refine wp_seq ?_
 refine c_region ?_
 refine l_pure S (p_eql rfl rfl) rfl rfl rfl ?_; clear S a; intro a S
 refine l_pure S (p_assign rfl) rfl rfl rfl ?_; clear S a; intro a S
 refine l_nil ?_
 refine e_then ?_
 refine c_cond S rfl (fun bc2 => ?_) (fun bc2 => ?_)
 ·
  have c2 := bc2
  have c2 := eq_of_beq c2
  refine wp_seq ?_
  refine c_region ?_
  obtain rfl : k = 0 := by omega
  have hcon := b_fieldSeparatorSpace wb _ B _ H
  refine l_call S rfl rfl Tryd.func42 rfl rfl (hcon) rfl rfl rfl ?_
  rintro e w ⟨q, rfl, hH⟩
  refine ⟨_, rfl, ?_⟩; clear S a; intro a S
  clear H hcon; have H := hH; clear hH
  refine l_pure S (p_assign rfl) rfl rfl rfl ?_; clear S a; intro a S
  refine l_nil ?_
  refine e_then ?_
  refine wp_ret ?_
  refine e_in_ret ?_
  refine e_then_ret ?_
  exact r_ret1 S rfl rfl ⟨q, rfl, H⟩
 ·
  have c2 := bc2
  have c2 := ne_of_beq_false c2
  refine wp_seq ?_
  refine c_region ?_
  refine l_pure S (p_eql rfl rfl) rfl rfl rfl ?_; clear S a; intro a S
  refine l_pure S (p_assign rfl) rfl rfl rfl ?_; clear S a; intro a S
  refine l_nil ?_
  refine e_then ?_
  refine c_cond S rfl (fun bc4 => ?_) (fun bc4 => ?_)
  ·
   have c4 := bc4
   have c4 := eq_of_beq c4
   refine wp_seq ?_
   refine c_region ?_
   obtain rfl : k = 1 := by omega
   have hcon := b_whitespace wb _ B _ H
   refine l_call S rfl rfl Tryd.func43 rfl rfl (hcon) rfl rfl rfl ?_
   rintro e w ⟨q, rfl, hH⟩
   refine ⟨_, rfl, ?_⟩; clear S a; intro a S
   clear H hcon; have H := hH; clear hH
   refine l_pure S (p_assign rfl) rfl rfl rfl ?_; clear S a; intro a S
   refine l_nil ?_
   refine e_then ?_
   refine wp_ret ?_
   refine e_in_ret ?_
   refine e_then_ret ?_
   exact r_ret1 S rfl rfl ⟨q, rfl, H⟩
  ·
   have c4 := bc4
   have c4 := ne_of_beq_false c4
   refine wp_seq ?_
   refine c_region ?_
   refine l_pure S (p_eql rfl rfl) rfl rfl rfl ?_; clear S a; intro a S
   refine l_pure S (p_assign rfl) rfl rfl rfl ?_; clear S a; intro a S
   refine l_nil ?_
   refine e_then ?_
   refine c_cond S rfl (fun bc6 => ?_) (fun bc6 => ?_)
   ·
    have c6 := bc6
    have c6 := eq_of_beq c6
    refine wp_seq ?_
    refine c_region ?_
    obtain rfl : k = 2 := by omega
    have hcon := b_tagKeyChars wb _ B _ H
    refine l_call S rfl rfl Tryd.func44 rfl rfl (hcon) rfl rfl rfl ?_
    rintro e w ⟨q, rfl, hH⟩
    refine ⟨_, rfl, ?_⟩; clear S a; intro a S
    clear H hcon; have H := hH; clear hH
    refine l_pure S (p_assign rfl) rfl rfl rfl ?_; clear S a; intro a S
    refine l_nil ?_
    refine e_then ?_
    refine wp_ret ?_
    refine e_in_ret ?_
    refine e_then_ret ?_
    exact r_ret1 S rfl rfl ⟨q, rfl, H⟩
   ·
    have c6 := bc6
    have c6 := ne_of_beq_false c6
    refine wp_seq ?_
    refine c_region ?_
    refine l_pure S (p_eql rfl rfl) rfl rfl rfl ?_; clear S a; intro a S
    refine l_pure S (p_assign rfl) rfl rfl rfl ?_; clear S a; intro a S
    refine l_nil ?_
    refine e_then ?_
    refine c_cond S rfl (fun bc8 => ?_) (fun bc8 => ?_)
    ·
     have c8 := bc8
     have c8 := eq_of_beq c8
     refine wp_seq ?_
     refine c_region ?_
     obtain rfl : k = 3 := by omega
     have hcon := b_nonPrintable wb _ B _ H
     refine l_call S rfl rfl Tryd.func45 rfl rfl (hcon) rfl rfl rfl ?_
     rintro e w ⟨q, rfl, hH⟩
     refine ⟨_, rfl, ?_⟩; clear S a; intro a S
     clear H hcon; have H := hH; clear hH
     refine l_pure S (p_assign rfl) rfl rfl rfl ?_; clear S a; intro a S
     refine l_nil ?_
     refine e_then ?_
     refine wp_ret ?_
     refine e_in_ret ?_
     refine e_then_ret ?_
     exact r_ret1 S rfl rfl ⟨q, rfl, H⟩
    ·
     have c8 := bc8
     have c8 := ne_of_beq_false c8
     refine wp_seq ?_
     refine c_region ?_
     refine l_pure S (p_eql rfl rfl) rfl rfl rfl ?_; clear S a; intro a S
     refine l_pure S (p_assign rfl) rfl rfl rfl ?_; clear S a; intro a S
     refine l_nil ?_
     refine e_then ?_
     refine c_cond S rfl (fun bc10 => ?_) (fun bc10 => ?_)
     ·
      have c10 := bc10
      have c10 := eq_of_beq c10
      refine wp_seq ?_
      refine c_region ?_
      obtain rfl : k = 4 := by omega
      have hcon := b_eolChars wb _ B _ H
      refine l_call S rfl rfl Tryd.func46 rfl rfl (hcon) rfl rfl rfl ?_
      rintro e w ⟨q, rfl, hH⟩
      refine ⟨_, rfl, ?_⟩; clear S a; intro a S
      clear H hcon; have H := hH; clear hH
      refine l_pure S (p_assign rfl) rfl rfl rfl ?_; clear S a; intro a S
      refine l_nil ?_
      refine e_then ?_
      refine wp_ret ?_
      refine e_in_ret ?_
      refine e_then_ret ?_
      exact r_ret1 S rfl rfl ⟨q, rfl, H⟩
     ·
      have c10 := bc10
      have c10 := ne_of_beq_false c10
      refine wp_seq ?_
      refine c_region ?_
      refine l_pure S (p_eql rfl rfl) rfl rfl rfl ?_; clear S a; intro a S
      refine l_pure S (p_assign rfl) rfl rfl rfl ?_; clear S a; intro a S
      refine l_nil ?_
      refine e_then ?_
      refine c_cond S rfl (fun bc12 => ?_) (fun bc12 => ?_)
      ·
       have c12 := bc12
       have c12 := eq_of_beq c12
       refine wp_seq ?_
       refine c_region ?_
       obtain rfl : k = 5 := by omega
       have hcon := b_measurementChars wb _ B _ H
       refine l_call S rfl rfl Tryd.func47 rfl rfl (hcon) rfl rfl rfl ?_
       rintro e w ⟨q, rfl, hH⟩
       refine ⟨_, rfl, ?_⟩; clear S a; intro a S
       clear H hcon; have H := hH; clear hH
       refine l_pure S (p_assign rfl) rfl rfl rfl ?_; clear S a; intro a S
       refine l_nil ?_
       refine e_then ?_
       refine wp_ret ?_
       refine e_in_ret ?_
       refine e_then_ret ?_
       exact r_ret1 S rfl rfl ⟨q, rfl, H⟩
      ·
       have c12 := bc12
       have c12 := ne_of_beq_false c12
       refine wp_seq ?_
       refine c_region ?_
       refine l_pure S (p_eql rfl rfl) rfl rfl rfl ?_; clear S a; intro a S
       refine l_pure S (p_assign rfl) rfl rfl rfl ?_; clear S a; intro a S
       refine l_nil ?_
       refine e_then ?_
       refine c_cond S rfl (fun bc14 => ?_) (fun bc14 => ?_)
       ·
        have c14 := bc14
        have c14 := eq_of_beq c14
        refine wp_seq ?_
        refine c_region ?_
        obtain rfl : k = 6 := by omega
        have hcon := b_tagValChars wb _ B _ H
        refine l_call S rfl rfl Tryd.func48 rfl rfl (hcon) rfl rfl rfl ?_
        rintro e w ⟨q, rfl, hH⟩
        refine ⟨_, rfl, ?_⟩; clear S a; intro a S
        clear H hcon; have H := hH; clear hH
        refine l_pure S (p_assign rfl) rfl rfl rfl ?_; clear S a; intro a S
        refine l_nil ?_
        refine e_then ?_
        refine wp_ret ?_
        refine e_in_ret ?_
        refine e_then_ret ?_
        exact r_ret1 S rfl rfl ⟨q, rfl, H⟩
       ·
        have c14 := bc14
        have c14 := ne_of_beq_false c14
        refine wp_seq ?_
        refine c_region ?_
        refine l_pure S (p_eql rfl rfl) rfl rfl rfl ?_; clear S a; intro a S
        refine l_pure S (p_assign rfl) rfl rfl rfl ?_; clear S a; intro a S
        refine l_nil ?_
        refine e_then ?_
        refine c_cond S rfl (fun bc16 => ?_) (fun bc16 => ?_)
        ·
         have c16 := bc16
         have c16 := eq_of_beq c16
         refine wp_seq ?_
         refine c_region ?_
         obtain rfl : k = 7 := by omega
         have hcon := b_fieldKeyChars wb _ B _ H
         refine l_call S rfl rfl Tryd.func49 rfl rfl (hcon) rfl rfl rfl ?_
         rintro e w ⟨q, rfl, hH⟩
         refine ⟨_, rfl, ?_⟩; clear S a; intro a S
         clear H hcon; have H := hH; clear hH
         refine l_pure S (p_assign rfl) rfl rfl rfl ?_; clear S a; intro a S
         refine l_nil ?_
         refine e_then ?_
         refine wp_ret ?_
         refine e_in_ret ?_
         refine e_then_ret ?_
         exact r_ret1 S rfl rfl ⟨q, rfl, H⟩
        ·
         have c16 := bc16
         have c16 := ne_of_beq_false c16
         refine wp_seq ?_
         refine c_region ?_
         refine l_pure S (p_eql rfl rfl) rfl rfl rfl ?_; clear S a; intro a S
         refine l_pure S (p_assign rfl) rfl rfl rfl ?_; clear S a; intro a S
         refine l_nil ?_
         refine e_then ?_
         refine c_cond S rfl (fun bc18 => ?_) (fun bc18 => ?_)
         ·
          have c18 := bc18
          have c18 := eq_of_beq c18
          refine wp_seq ?_
          refine c_region ?_
          obtain rfl : k = 8 := by omega
          have hcon := b_fieldStringValChars wb _ B _ H
          refine l_call S rfl rfl Tryd.func50 rfl rfl (hcon) rfl rfl rfl ?_
          rintro e w ⟨q, rfl, hH⟩
          refine ⟨_, rfl, ?_⟩; clear S a; intro a S
          clear H hcon; have H := hH; clear hH
          refine l_pure S (p_assign rfl) rfl rfl rfl ?_; clear S a; intro a S
          refine l_nil ?_
          refine e_then ?_
          refine wp_ret ?_
          refine e_in_ret ?_
          refine e_then_ret ?_
          exact r_ret1 S rfl rfl ⟨q, rfl, H⟩
         ·
          have c18 := bc18
          have c18 := ne_of_beq_false c18
          refine wp_seq ?_
          refine c_region ?_
          refine l_pure S (p_eql rfl rfl) rfl rfl rfl ?_; clear S a; intro a S
          refine l_pure S (p_assign rfl) rfl rfl rfl ?_; clear S a; intro a S
          refine l_nil ?_
          refine e_then ?_
          refine c_cond S rfl (fun bc20 => ?_) (fun bc20 => ?_)
          ·
           have c20 := bc20
           have c20 := eq_of_beq c20
           refine wp_seq ?_
           refine c_region ?_
           obtain rfl : k = 9 := by omega
           have hcon := b_fieldValChars wb _ B _ H
           refine l_call S rfl rfl Tryd.func51 rfl rfl (hcon) rfl rfl rfl ?_
           rintro e w ⟨q, rfl, hH⟩
           refine ⟨_, rfl, ?_⟩; clear S a; intro a S
           clear H hcon; have H := hH; clear hH
           refine l_pure S (p_assign rfl) rfl rfl rfl ?_; clear S a; intro a S
           refine l_nil ?_
           refine e_then ?_
           refine wp_ret ?_
           refine e_in_ret ?_
           refine e_then_ret ?_
           exact r_ret1 S rfl rfl ⟨q, rfl, H⟩
          ·
           have c20 := bc20
           have c20 := ne_of_beq_false c20
           refine wp_seq ?_
           refine c_region ?_
           refine l_pure S (p_eql rfl rfl) rfl rfl rfl ?_; clear S a; intro a S
           refine l_pure S (p_assign rfl) rfl rfl rfl ?_; clear S a; intro a S
           refine l_nil ?_
           refine e_then ?_
           refine c_cond S rfl (fun bc22 => ?_) (fun bc22 => ?_)
           ·
            have c22 := bc22
            have c22 := eq_of_beq c22
            refine wp_seq ?_
            refine c_region ?_
            obtain rfl : k = 10 := by omega
            have hcon := b_timeChars wb _ B _ H
            refine l_call S rfl rfl Tryd.func52 rfl rfl (hcon) rfl rfl rfl ?_
            rintro e w ⟨q, rfl, hH⟩
            refine ⟨_, rfl, ?_⟩; clear S a; intro a S
            clear H hcon; have H := hH; clear hH
            refine l_pure S (p_assign rfl) rfl rfl rfl ?_; clear S a; intro a S
            refine l_nil ?_
            refine e_then ?_
            refine wp_ret ?_
            refine e_in_ret ?_
            refine e_then_ret ?_
            exact r_ret1 S rfl rfl ⟨q, rfl, H⟩
           ·
            have c22 := bc22
            have c22 := ne_of_beq_false c22
            refine wp_seq ?_
            refine c_region ?_
            refine l_pure S (p_eql rfl rfl) rfl rfl rfl ?_; clear S a; intro a S
            refine l_pure S (p_assign rfl) rfl rfl rfl ?_; clear S a; intro a S
            refine l_nil ?_
            refine e_then ?_
            refine c_cond S rfl (fun bc24 => ?_) (fun bc24 => ?_)
            ·
             have c24 := bc24
             have c24 := eq_of_beq c24
             refine wp_seq ?_
             refine c_region ?_
             obtain rfl : k = 11 := by omega
             have hcon := b_commentChars wb _ B _ H
             refine l_call S rfl rfl Tryd.func53 rfl rfl (hcon) rfl rfl rfl ?_
             rintro e w ⟨q, rfl, hH⟩
             refine ⟨_, rfl, ?_⟩; clear S a; intro a S
             clear H hcon; have H := hH; clear hH
             refine l_pure S (p_assign rfl) rfl rfl rfl ?_; clear S a; intro a S
             refine l_nil ?_
             refine e_then ?_
             refine wp_ret ?_
             refine e_in_ret ?_
             refine e_then_ret ?_
             exact r_ret1 S rfl rfl ⟨q, rfl, H⟩
            ·
             have c24 := bc24
             have c24 := ne_of_beq_false c24
             refine wp_seq ?_
             refine c_region ?_
             refine l_pure S (p_eql rfl rfl) rfl rfl rfl ?_; clear S a; intro a S
             refine l_pure S (p_assign rfl) rfl rfl rfl ?_; clear S a; intro a S
             refine l_nil ?_
             refine e_then ?_
             refine c_cond S rfl (fun bc26 => ?_) (fun bc26 => ?_)
             ·
              have c26 := bc26
              have c26 := eq_of_beq c26
              refine wp_seq ?_
              refine c_region ?_
              obtain rfl : k = 12 := by omega
              have hcon := b_notEOL wb _ B _ H
              refine l_call S rfl rfl Tryd.func54 rfl rfl (hcon) rfl rfl rfl ?_
              rintro e w ⟨q, rfl, hH⟩
              refine ⟨_, rfl, ?_⟩; clear S a; intro a S
              clear H hcon; have H := hH; clear hH
              refine l_pure S (p_assign rfl) rfl rfl rfl ?_; clear S a; intro a S
              refine l_nil ?_
              refine e_then ?_
              refine wp_ret ?_
              refine e_in_ret ?_
              refine e_then_ret ?_
              exact r_ret1 S rfl rfl ⟨q, rfl, H⟩
             ·
              have c26 := bc26
              have c26 := ne_of_beq_false c26
              refine wp_skip ?_
              refine e_in 0 ?_
              refine e_then ?_
              refine wp_seq ?_
              refine c_region ?_
              obtain rfl : k = 13 := by omega
              have hcon := b_notNewline wb _ B _ H
              refine l_call S rfl rfl Tryd.func55 rfl rfl (hcon) rfl rfl rfl ?_
              rintro e w ⟨q, rfl, hH⟩
              refine ⟨_, rfl, ?_⟩; clear S a; intro a S
              clear H hcon; have H := hH; clear hH
              refine l_pure S (p_assign rfl) rfl rfl rfl ?_; clear S a; intro a S
              refine l_nil ?_
              refine e_then ?_
              refine wp_ret ?_
              exact r_ret1 S rfl rfl ⟨q, rfl, H⟩
end Go.Proofs.YtbahngfpadjbhaaDoor.st
