/- Part of the proof that FnDecodeCRLF answers true at every text, in every world that its card's statement admits; no condition beyond those. -/
import Derived.Test.YtbahngfpadjbhaaGreatDoorProg
import Derived.Test.YtbahngfpadjbhaaGreatDoorR04
import Derived.Test.YtbahngfpadjbhaaGreatDoorR05
set_option linter.unusedVariables false
set_option linter.unusedSimpArgs false
section
namespace Go.Proofs.YtbahngfpadjbhaaGreatDoor.st
open Go.Proofs.YtbahngfpadjbhaaGreatDoor.fx
open Go.RowKit Go.Proofs.HHW Go.Proofs.YtbahngfpadjbhaaGreatDoorW.PrintWords
theorem all256 {p q : Nat → Bool} (h : (List.range 256).all (fun i => p i == q i) = true) : ∀ i, i < 256 → p i = q i := fun i hi => by simpa using List.all_eq_true.1 h i (List.mem_range.2 hi)
theorem zvA : zvB Tryz.prog 124 = some (.agg (vec (fun _ => false)).toArray) := by kernel_rfl
theorem szA : szB Tryz.prog 124 = some 256 := by kernel_rfl
theorem agA : aggB Tryz.prog 124 = some true := by kernel_rfl
theorem bset (wb w0 : World) (B : Nat) (L0 : List (Nat × Obj)) (g x : Nat) (p : Nat → Bool) (hx : x < 256) (H : HH B wb w0 ((g, .cells (vec (p)).toArray 124 (0, 0)) :: L0)) : Calls Tryz.prog 89 #[.pointer (some ⟨g, 0, none⟩), .int .u8 (x : Int)] w0 fun e w' => e = .returned (.tuple #[]) ∧ HH B wb w' ((g, .cells (vec (fun j => if j = x then true else p j)).toArray 124 (0, 0)) :: L0) := by
 refine c_enter (args := [.pointer (some ⟨g, 0, none⟩), .int .u8 (x : Int)]) (k := 6) Tryz.func89 rfl rfl rfl ?_
 refine pG (pM 1 rfl (pP (p_move rfl) rfl (pM 1 rfl (pP (p_indexAddr rfl rfl (fun w => ia_array Tryz.underlying124 sz4 (by omega) (by omega))) rfl (pE H rfl rfl rfl .here (by simp [vec_len]; omega) sz4 ?_)))));clear H;intro w H
 have e0 : 0 + (x : Int).toNat * 1 = x := by omega
 rw [e0, vec_set] at H
 refine pL ?_;intro a S
 exact r_end0 S rfl ⟨rfl, H⟩
set_option maxRecDepth 20000 in
theorem bnew (wb w0 : World) (B : Nat) (L0 : List (Nat × Obj)) (s : ByteArray) (hs : s.size ≤ 1000000) (H : HH B wb w0 L0) : Calls Tryz.prog 72 #[.string s] w0 fun e w' => ∃ g, e = .returned (.pointer (some ⟨g, 0, none⟩)) ∧ HH B wb w' ((g, .cells (vec (ofs s)).toArray 124 (0, 0)) :: L0) := by
 refine c_enter (args := [.string s]) (k := 14) Tryz.func72 rfl rfl rfl ?_
 refine pS (pG (pM 1 rfl (pL (pT (pS (pG ?_))))));intro a S
 refine l_alloc (cs := (vec (fun _ => false)).toArray) S H rfl (fun w => al zvA) rfl rfl rfl ?_; clear S a H; intro g1 w a H S
 revert a;refine pL (pT (pS (pS (pG (pM 1 rfl (pL (pT (pB ?_))))))))
 rw [show vec (fun _ => false) = vec (inp (ints s) 0) by rw [inp_zero]] at H
 intro a S
 refine c_loop (σ := Nat) (fun s_ a w => match s_ with | i => SL a 15 [] [(0, .string s), (3, .pointer (some ⟨g1, 0, none⟩)), (4, .int .i64 (i : Int))] ∧ HH (B) wb w ((g1, .cells (vec (inp (ints s) i)).toArray 124 (0, 0)) :: L0) ∧ (i ≤ s.size)) (fun s_ => match s_ with | i => s.size - i) 0 ⟨S.only ⟨rfl, rfl, rfl, trivial⟩, H, Nat.zero_le _⟩ ?_
 clear S a H; rintro i a w ⟨S, H, hinv⟩
 have hbt := HHW.bt_range s (i : Int)
 revert a;refine pS (pS (pG (pM 2 rfl (pP (p_builtin (xs := [_]) rfl (fun _ _ _ => rfl)) rfl (pP (p_lss rfl rfl) rfl (pL (pT (zc rfl (fun bc3 => ?_) (fun bc3 => ?_)))))))))
 ·
  have c3 := of_decide_eq_true bc3
  refine pK (pT (pS (pB (pG (pM 2 rfl (pP (p_index rfl rfl (fun w => ix_string Tryz.underlying9 (by omega) (by omega))) rfl ?_))))))
  have hi : i < s.size := by omega
  have ebt : ((HHW.bt s (i : Int)).toNat : Int) = HHW.bt s (i : Int) := by omega
  intro a S
  rw [← ebt] at S
  have hcon := bset wb _ B L0 _ (HHW.bt s (i : Int)).toNat _ (by omega) H
  revert a;refine pC Tryz.func89 hcon ?_
  rintro e w ⟨rfl, hH⟩
  refine ⟨_, rfl, ?_⟩
  clear H hcon; have H := hH; clear hH; rw [inp_succ (ints_bt s hi)] at H
  refine pL (pI 1 (pT (pG (pM 1 rfl (pP (p_add rfl rfl (nat_add (x := i) (y := 1) (by omega))) rfl (pM 1 rfl (pL (pT ?_))))))));intro a S
  exact ⟨(i + 1), ⟨S.only ⟨rfl, rfl, rfl, trivial⟩, H, by omega⟩, by show s.size - (i + 1) < s.size - i; omega⟩
 have c3 := of_decide_eq_false bc3
 refine pX (pV (pV (pW (pT (pS (pG (pM 1 rfl (pL (pT (pZ ?_))))))))))
 rw [inp_all s (by omega)] at H
 intro a S
 exact r_ret1 S rfl rfl ⟨g1, rfl, H⟩
theorem brange (wb w0 : World) (B : Nat) (L0 : List (Nat × Obj)) (H : HH B wb w0 L0) : Calls Tryz.prog 90 #[.int .u8 0, .int .u8 31] w0 fun e w' => ∃ g, e = .returned (.pointer (some ⟨g, 0, none⟩)) ∧ HH B wb w' ((g, .cells (vec (upto 32 (fun _ => true) (fun _ => false))).toArray 124 (0, 0)) :: L0) := by
 refine c_enter (args := [.int .u8 0, .int .u8 31]) (k := 13) Tryz.func90 rfl rfl rfl ?_
 refine pS (pG (pM 1 rfl (pL (pT (pS (pG ?_))))));intro a S
 refine l_alloc (cs := (vec (fun _ => false)).toArray) S H rfl (fun w => al zvA) rfl rfl rfl ?_; clear S a H; intro g1 w a H S
 revert a;refine pL (pT (pS (pS (pG (pP (p_move rfl) rfl (pM 1 rfl (pL (pT (pB ?_)))))))))
 rw [show vec (fun _ => false) = vec (upto 0 (fun _ => true) (fun _ => false)) by rw [upto_zero]] at H
 intro a S
 refine c_loop (σ := Nat) (fun s_ a w => match s_ with | i => SL a 15 [] [(1, .int .u8 31), (5, .pointer (some ⟨g1, 0, none⟩)), (6, .int .u8 (i : Int))] ∧ HH (B) wb w ((g1, .cells (vec (upto i (fun _ => true) (fun _ => false))).toArray 124 (0, 0)) :: L0) ∧ (i ≤ 32)) (fun s_ => match s_ with | i => 32 - i) 0 ⟨S.only ⟨rfl, rfl, rfl, trivial⟩, H, Nat.zero_le _⟩ ?_
 clear S a H; rintro i a w ⟨S, H, hinv⟩
 revert a;refine pS (pS (pG (pM 2 rfl (pP (p_leq rfl rfl) rfl (pL (pT (zc rfl (fun bc3 => ?_) (fun bc3 => ?_))))))))
 ·
  have c3 := of_decide_eq_true bc3
  refine pK (pT (pS (pB (pG (pM 1 rfl ?_)))))
  have hcon := bset wb _ B L0 _ i _ (by omega) H
  refine pC Tryz.func89 hcon ?_
  rintro e w ⟨rfl, hH⟩
  refine ⟨_, rfl, ?_⟩
  clear H hcon; have H := hH; clear hH; rw [upto_succ i (fun _ => true) (fun _ => false) (v := true) rfl] at H
  refine pL (pI 1 (pT (pG (pM 1 rfl (pP (p_add (r := _) rfl rfl (IntWalk.u8_in _ (by omega))) rfl (pM 1 rfl (pL (pT ?_))))))));intro a S
  exact ⟨(i + 1), ⟨S.only ⟨rfl, rfl, rfl, trivial⟩, H, by omega⟩, by show 32 - (i + 1) < 32 - i; omega⟩
 have c3 := of_decide_eq_false bc3
 refine pX (pV (pV (pW (pT (pS (pG (pM 1 rfl (pL (pT (pZ ?_))))))))))
 have ei : i = 32 := by omega
 subst ei
 intro a S
 exact r_ret1 S rfl rfl ⟨g1, rfl, H⟩
theorem bunion (wb w0 : World) (B : Nat) (L0 : List (Nat × Obj)) (gp gq : Nat) (p q : Nat → Bool) (hgp : (gp, Obj.cells (vec p).toArray 124 (0, 0)) ∈ L0) (hgq : (gq, Obj.cells (vec q).toArray 124 (0, 0)) ∈ L0) (H : HH B wb w0 L0) : Calls Tryz.prog 80 #[.pointer (some ⟨gp, 0, none⟩), .pointer (some ⟨gq, 0, none⟩)] w0 fun e w' => ∃ g, e = .returned (.pointer (some ⟨g, 0, none⟩)) ∧ HH B wb w' ((g, .cells (vec (bOr p q)).toArray 124 (0, 0)) :: L0) := by
 refine c_enter (args := [.pointer (some ⟨gp, 0, none⟩), .pointer (some ⟨gq, 0, none⟩)]) (k := 24) Tryz.func80 rfl rfl rfl ?_
 refine pS (pG (pM 1 rfl (pL (pT (pS (pG (pM 2 rfl (pR H (r_setM rfl agA szA hgp) rfl ?_))))))));intro a S
 refine l_alloc (cs := (vec (fun _ => false)).toArray) S H rfl (fun w => al zvA) rfl rfl rfl ?_; clear S a H; intro g1 w a H S
 refine l_storeAll (vs := vec p) S H rfl rfl rfl (by rw [szA, vec_len]) .here (by simp [vec_len]) (vec_one p) rfl rfl ?_; clear S a H; intro w a H S
 revert a;refine pL (pT (pS (pS (pG (pM 1 rfl (pL (pT (pB ?_))))))))
 rw [show vec p = vec (upto 0 (bOr p q) p) by rw [upto_zero]] at H
 intro a S
 refine c_loop (σ := Nat) (fun s_ a w => match s_ with | i => SL a 26 [] [(1, .pointer (some ⟨gq, 0, none⟩)), (5, .pointer (some ⟨g1, 0, none⟩)), (10, .int .i64 (i : Int))] ∧ HH (B) wb w ((g1, .cells (vec (upto i (bOr p q) p)).toArray 124 (0, 0)) :: L0) ∧ (i ≤ 256)) (fun s_ => match s_ with | i => 256 - i) 0 ⟨S.only ⟨rfl, rfl, rfl, trivial⟩, H, Nat.zero_le _⟩ ?_
 clear S a H; rintro i a w ⟨S, H, hinv⟩
 revert a;refine pS (pG (pP (p_lss rfl rfl) rfl (pL (pT (pS (zc rfl (fun bc3 => ?_) (fun bc3 => ?_)))))))
 ·
  have c3 := of_decide_eq_true bc3
  refine pK (pT (pS (pB (pS (pG (pM 2 rfl (pL (pT (pG (pM 2 rfl (pP (p_indexAddr rfl rfl (fun w => ia_array Tryz.underlying124 sz4 (by omega) (by omega))) rfl (pR H (r_load (v := .bool (p i)) rfl m0 (vec_arr (upto i (bOr p q) p) (by omega) (upto_at i _ _)) (fun w hc => ld1 ag4 hc)) rfl (pM 1 rfl ?_)))))))))))));intro a S
  refine l_split (S.of 17 rfl) (fun bc5 => ?_) (fun bc5 => ?_)
  ·
   revert a;refine pO bc5 rfl (pO bc5 rfl (pO bc5 rfl (pO bc5 rfl (pO bc5 rfl (pP (p_pick_t rfl bc5 rfl) rfl (pP (p_indexAddr rfl rfl (fun w => ia_array Tryz.underlying124 sz4 (by omega) (by omega))) rfl (pE H rfl rfl rfl .here (by simp [vec_len]; omega) sz4 ?_)))))));clear H;intro w H
   have e0 : 0 + (i : Int).toNat * 1 = i := by omega
   rw [e0, vec_set, upto_succ i (bOr p q) p (by simp_all [bOr, bAnd, bNot])] at H
   refine pL (pI 1 (pT (pG (pP (p_add rfl rfl (nat_add (x := i) (y := 1) (by omega))) rfl (pM 1 rfl (pL (pT ?_)))))));intro a S
   exact ⟨(i + 1), ⟨S.only ⟨rfl, rfl, rfl, trivial⟩, H, by omega⟩, by show 256 - (i + 1) < 256 - i; omega⟩
  revert a;refine pN bc5 (pP (p_move rfl) rfl (pN bc5 (pP (p_move rfl) rfl (pN bc5 (pP (p_nilCheck rfl) rfl (pN bc5 (pP (p_indexAddr rfl rfl (fun w => ia_array Tryz.underlying124 sz4 (by omega) (by omega))) rfl (pN bc5 (pR H (r_bitM (i := i) rfl (by omega) (by omega) ag4 (List.mem_cons_of_mem _ hgq)) rfl (pP (p_pick_f rfl bc5 rfl) rfl (pP (p_indexAddr rfl rfl (fun w => ia_array Tryz.underlying124 sz4 (by omega) (by omega))) rfl (pE H rfl rfl rfl .here (by simp [vec_len]; omega) sz4 ?_))))))))))));clear H;intro w H
  have e0 : 0 + (i : Int).toNat * 1 = i := by omega
  rw [e0, vec_set, upto_succ i (bOr p q) p (by simp_all [bOr, bAnd, bNot])] at H
  refine pL (pI 1 (pT (pG (pP (p_add rfl rfl (nat_add (x := i) (y := 1) (by omega))) rfl (pM 1 rfl (pL (pT ?_)))))));intro a S
  exact ⟨(i + 1), ⟨S.only ⟨rfl, rfl, rfl, trivial⟩, H, by omega⟩, by show 256 - (i + 1) < 256 - i; omega⟩
 have c3 := of_decide_eq_false bc3
 refine pX (pV (pV (pW (pT (pS (pG (pM 1 rfl (pL (pT (pZ ?_))))))))))
 rw [show vec (upto i (bOr p q) p) = vec (bOr p q) from vec_ext (fun j hj => by simp [upto, show j < i by omega])] at H
 intro a S
 exact r_ret1 S rfl rfl ⟨g1, rfl, H⟩
theorem binter (wb w0 : World) (B : Nat) (L0 : List (Nat × Obj)) (gp gq : Nat) (p q : Nat → Bool) (hgp : (gp, Obj.cells (vec p).toArray 124 (0, 0)) ∈ L0) (hgq : (gq, Obj.cells (vec q).toArray 124 (0, 0)) ∈ L0) (H : HH B wb w0 L0) : Calls Tryz.prog 91 #[.pointer (some ⟨gp, 0, none⟩), .pointer (some ⟨gq, 0, none⟩)] w0 fun e w' => ∃ g, e = .returned (.pointer (some ⟨g, 0, none⟩)) ∧ HH B wb w' ((g, .cells (vec (bAnd p q)).toArray 124 (0, 0)) :: L0) := by
 refine c_enter (args := [.pointer (some ⟨gp, 0, none⟩), .pointer (some ⟨gq, 0, none⟩)]) (k := 24) Tryz.func91 rfl rfl rfl ?_
 refine pS (pG (pM 1 rfl (pL (pT (pS (pG (pM 2 rfl (pR H (r_setM rfl agA szA hgp) rfl ?_))))))));intro a S
 refine l_alloc (cs := (vec (fun _ => false)).toArray) S H rfl (fun w => al zvA) rfl rfl rfl ?_; clear S a H; intro g1 w a H S
 refine l_storeAll (vs := vec p) S H rfl rfl rfl (by rw [szA, vec_len]) .here (by simp [vec_len]) (vec_one p) rfl rfl ?_; clear S a H; intro w a H S
 revert a;refine pL (pT (pS (pS (pG (pM 1 rfl (pL (pT (pB ?_))))))))
 rw [show vec p = vec (upto 0 (bAnd p q) p) by rw [upto_zero]] at H
 intro a S
 refine c_loop (σ := Nat) (fun s_ a w => match s_ with | i => SL a 26 [] [(1, .pointer (some ⟨gq, 0, none⟩)), (5, .pointer (some ⟨g1, 0, none⟩)), (10, .int .i64 (i : Int))] ∧ HH (B) wb w ((g1, .cells (vec (upto i (bAnd p q) p)).toArray 124 (0, 0)) :: L0) ∧ (i ≤ 256)) (fun s_ => match s_ with | i => 256 - i) 0 ⟨S.only ⟨rfl, rfl, rfl, trivial⟩, H, Nat.zero_le _⟩ ?_
 clear S a H; rintro i a w ⟨S, H, hinv⟩
 revert a;refine pS (pG (pP (p_lss rfl rfl) rfl (pL (pT (pS (zc rfl (fun bc3 => ?_) (fun bc3 => ?_)))))))
 ·
  have c3 := of_decide_eq_true bc3
  refine pK (pT (pS (pB (pS (pG (pM 2 rfl (pL (pT (pG (pM 2 rfl (pP (p_indexAddr rfl rfl (fun w => ia_array Tryz.underlying124 sz4 (by omega) (by omega))) rfl (pR H (r_load (v := .bool (p i)) rfl m0 (vec_arr (upto i (bAnd p q) p) (by omega) (upto_at i _ _)) (fun w hc => ld1 ag4 hc)) rfl (pM 1 rfl ?_)))))))))))));intro a S
  refine l_split (S.of 17 rfl) (fun bc5 => ?_) (fun bc5 => ?_)
  ·
   revert a;refine pN bc5 (pP (p_move rfl) rfl (pN bc5 (pP (p_move rfl) rfl (pN bc5 (pP (p_nilCheck rfl) rfl (pN bc5 (pP (p_indexAddr rfl rfl (fun w => ia_array Tryz.underlying124 sz4 (by omega) (by omega))) rfl (pN bc5 (pR H (r_bitM (i := i) rfl (by omega) (by omega) ag4 (List.mem_cons_of_mem _ hgq)) rfl (pP (p_pick_t rfl bc5 rfl) rfl (pP (p_indexAddr rfl rfl (fun w => ia_array Tryz.underlying124 sz4 (by omega) (by omega))) rfl (pE H rfl rfl rfl .here (by simp [vec_len]; omega) sz4 ?_))))))))))));clear H;intro w H
   have e0 : 0 + (i : Int).toNat * 1 = i := by omega
   rw [e0, vec_set, upto_succ i (bAnd p q) p (by simp_all [bOr, bAnd, bNot])] at H
   refine pL (pI 1 (pT (pG (pP (p_add rfl rfl (nat_add (x := i) (y := 1) (by omega))) rfl (pM 1 rfl (pL (pT ?_)))))));intro a S
   exact ⟨(i + 1), ⟨S.only ⟨rfl, rfl, rfl, trivial⟩, H, by omega⟩, by show 256 - (i + 1) < 256 - i; omega⟩
  revert a;refine pO bc5 rfl (pO bc5 rfl (pO bc5 rfl (pO bc5 rfl (pO bc5 rfl (pP (p_pick_f rfl bc5 rfl) rfl (pP (p_indexAddr rfl rfl (fun w => ia_array Tryz.underlying124 sz4 (by omega) (by omega))) rfl (pE H rfl rfl rfl .here (by simp [vec_len]; omega) sz4 ?_)))))));clear H;intro w H
  have e0 : 0 + (i : Int).toNat * 1 = i := by omega
  rw [e0, vec_set, upto_succ i (bAnd p q) p (by simp_all [bOr, bAnd, bNot])] at H
  refine pL (pI 1 (pT (pG (pP (p_add rfl rfl (nat_add (x := i) (y := 1) (by omega))) rfl (pM 1 rfl (pL (pT ?_)))))));intro a S
  exact ⟨(i + 1), ⟨S.only ⟨rfl, rfl, rfl, trivial⟩, H, by omega⟩, by show 256 - (i + 1) < 256 - i; omega⟩
 have c3 := of_decide_eq_false bc3
 refine pX (pV (pV (pW (pT (pS (pG (pM 1 rfl (pL (pT (pZ ?_))))))))))
 rw [show vec (upto i (bAnd p q) p) = vec (bAnd p q) from vec_ext (fun j hj => by simp [upto, show j < i by omega])] at H
 intro a S
 exact r_ret1 S rfl rfl ⟨g1, rfl, H⟩
theorem binv (wb w0 : World) (B : Nat) (L0 : List (Nat × Obj)) (gp : Nat) (p : Nat → Bool) (hgp : (gp, Obj.cells (vec p).toArray 124 (0, 0)) ∈ L0) (H : HH B wb w0 L0) : Calls Tryz.prog 74 #[.pointer (some ⟨gp, 0, none⟩)] w0 fun e w' => ∃ g, e = .returned (.pointer (some ⟨g, 0, none⟩)) ∧ HH B wb w' ((g, .cells (vec (bNot p)).toArray 124 (0, 0)) :: L0) := by
 refine c_enter (args := [.pointer (some ⟨gp, 0, none⟩)]) (k := 17) Tryz.func74 rfl rfl rfl ?_
 refine pS (pG (pM 1 rfl (pL (pT (pS (pG (pM 2 rfl (pR H (r_setM rfl agA szA hgp) rfl ?_))))))));intro a S
 refine l_alloc (cs := (vec (fun _ => false)).toArray) S H rfl (fun w => al zvA) rfl rfl rfl ?_; clear S a H; intro g1 w a H S
 refine l_storeAll (vs := vec p) S H rfl rfl rfl (by rw [szA, vec_len]) .here (by simp [vec_len]) (vec_one p) rfl rfl ?_; clear S a H; intro w a H S
 revert a;refine pL (pT (pS (pS (pG (pM 1 rfl (pL (pT (pB ?_))))))))
 rw [show vec p = vec (upto 0 (bNot p) p) by rw [upto_zero]] at H
 intro a S
 refine c_loop (σ := Nat) (fun s_ a w => match s_ with | i => SL a 18 [] [(3, .pointer (some ⟨g1, 0, none⟩)), (8, .int .i64 (i : Int))] ∧ HH (B) wb w ((g1, .cells (vec (upto i (bNot p) p)).toArray 124 (0, 0)) :: L0) ∧ (i ≤ 256)) (fun s_ => match s_ with | i => 256 - i) 0 ⟨S.only ⟨rfl, rfl, trivial⟩, H, Nat.zero_le _⟩ ?_
 clear S a H; rintro i a w ⟨S, H, hinv⟩
 revert a;refine pS (pG (pP (p_lss rfl rfl) rfl (pL (pT (pS (zc rfl (fun bc3 => ?_) (fun bc3 => ?_)))))))
 ·
  have c3 := of_decide_eq_true bc3
  refine pK (pT (pS (pB (pS (pG (pM 2 rfl (pL (pT (pG (pM 2 rfl (pP (p_indexAddr rfl rfl (fun w => ia_array Tryz.underlying124 sz4 (by omega) (by omega))) rfl (pR H (r_load (v := .bool (p i)) rfl m0 (vec_arr (upto i (bNot p) p) (by omega) (upto_at i _ _)) (fun w hc => ld1 ag4 hc)) rfl (pP (p_not rfl) rfl (pP (p_indexAddr rfl rfl (fun w => ia_array Tryz.underlying124 sz4 (by omega) (by omega))) rfl (pE H rfl rfl rfl .here (by simp [vec_len]; omega) sz4 ?_)))))))))))))));clear H;intro w H
  have e0 : 0 + (i : Int).toNat * 1 = i := by omega
  rw [e0, vec_set, upto_succ i (bNot p) p (by simp_all [bOr, bAnd, bNot])] at H
  refine pL (pI 1 (pT (pG (pP (p_add rfl rfl (nat_add (x := i) (y := 1) (by omega))) rfl (pM 1 rfl (pL (pT ?_)))))));intro a S
  exact ⟨(i + 1), ⟨S.only ⟨rfl, rfl, trivial⟩, H, by omega⟩, by show 256 - (i + 1) < 256 - i; omega⟩
 have c3 := of_decide_eq_false bc3
 refine pX (pV (pV (pW (pT (pS (pG (pM 1 rfl (pL (pT (pZ ?_))))))))))
 rw [show vec (upto i (bNot p) p) = vec (bNot p) from vec_ext (fun j hj => by simp [upto, show j < i by omega])] at H
 intro a S
 exact r_ret1 S rfl rfl ⟨g1, rfl, H⟩
theorem bwo (wb w0 : World) (B : Nat) (L0 : List (Nat × Obj)) (gp gq : Nat) (p q : Nat → Bool) (hgp : (gp, Obj.cells (vec p).toArray 124 (0, 0)) ∈ L0) (hgq : (gq, Obj.cells (vec q).toArray 124 (0, 0)) ∈ L0) (H : HH B wb w0 L0) : Calls Tryz.prog 75 #[.pointer (some ⟨gp, 0, none⟩), .pointer (some ⟨gq, 0, none⟩)] w0 fun e w' => ∃ g, e = .returned (.pointer (some ⟨g, 0, none⟩)) ∧ HH B wb w' ((g, .cells (vec (bAnd p (bNot q))).toArray 124 (0, 0)) :: L0) := by
 refine c_enter (args := [.pointer (some ⟨gp, 0, none⟩), .pointer (some ⟨gq, 0, none⟩)]) (k := 7) Tryz.func75 rfl rfl rfl ?_
 refine pS (pG (pM 1 rfl (pL (pT (pS (pG (pM 2 rfl ?_)))))))
 have hcon := binv wb _ B _ gq q hgq H
 refine pC Tryz.func74 hcon ?_
 rintro e w ⟨q1, rfl, hH⟩
 refine ⟨_, rfl, ?_⟩
 clear H hcon; have H := hH; clear hH
 have hcon := binter wb _ B _ gp q1 p _ (List.mem_cons_of_mem _ hgp) m0 H
 refine pC Tryz.func91 hcon ?_
 rintro e w ⟨q2, rfl, hH⟩
 refine ⟨_, rfl, ?_⟩
 clear H hcon; have H := hH; clear hH
 refine pM 1 rfl (pL (pT (pZ ?_)));intro a S
 exact r_ret1 S rfl rfl ⟨q2, rfl, H.sub (.cons_cons _ (.cons _ (.refl _)))⟩
theorem e_fieldSeparatorSpace : (List.range 256).all (fun i => (ofs ⟨#[32]⟩) i == sIn 0 i) = true := by decide +kernel
theorem b_fieldSeparatorSpace (wb w0 : World) (B : Nat) (L0 : List (Nat × Obj)) (H : HH B wb w0 L0) : Calls Tryz.prog 38 #[] w0 fun e w' => ∃ g, e = .returned (.pointer (some ⟨g, 0, none⟩)) ∧ HH B wb w' ((g, .cells (vec (sIn 0)).toArray 124 (0, 0)) :: L0) := by
 refine c_enter (args := []) (k := 2) Tryz.func38 rfl rfl rfl ?_
 refine pS (pG (pM 1 rfl (pL (pT (pS (pG ?_))))))
 have hcon := bnew wb _ B _ ⟨#[32]⟩ (by decide) H
 refine pC Tryz.func72 hcon ?_
 rintro e w ⟨q1, rfl, hH⟩
 refine ⟨_, rfl, ?_⟩
 clear H hcon; have H := hH; clear hH
 refine pM 1 rfl (pL (pT (pZ ?_)))
 replace H := H.sub (.cons_cons _ (.refl _))
 rw [show vec (ofs ⟨#[32]⟩) = vec (sIn 0) from vec_ext (all256 e_fieldSeparatorSpace)] at H
 intro a S
 exact r_ret1 S rfl rfl ⟨_, rfl, H⟩
theorem e_whitespace : (List.range 256).all (fun i => (bOr (sIn 0) (ofs ⟨#[13, 10]⟩)) i == sIn 1 i) = true := by decide +kernel
theorem b_whitespace (wb w0 : World) (B : Nat) (L0 : List (Nat × Obj)) (H : HH B wb w0 L0) : Calls Tryz.prog 62 #[] w0 fun e w' => ∃ g, e = .returned (.pointer (some ⟨g, 0, none⟩)) ∧ HH B wb w' ((g, .cells (vec (sIn 1)).toArray 124 (0, 0)) :: L0) := by
 refine c_enter (args := []) (k := 4) Tryz.func62 rfl rfl rfl ?_
 refine pS (pG (pM 1 rfl (pL (pT (pS (pG ?_))))))
 have hcon := b_fieldSeparatorSpace wb _ B _ H
 refine pC Tryz.func38 hcon ?_
 rintro e w ⟨q1, rfl, hH⟩
 refine ⟨_, rfl, ?_⟩
 clear H hcon; have H := hH; clear hH
 have hcon := bnew wb _ B _ ⟨#[13, 10]⟩ (by decide) H
 refine pC Tryz.func72 hcon ?_
 rintro e w ⟨q2, rfl, hH⟩
 refine ⟨_, rfl, ?_⟩
 clear H hcon; have H := hH; clear hH
 have hcon := bunion wb _ B _ _ _ _ _ m1 m0 H
 refine pC Tryz.func80 hcon ?_
 rintro e w ⟨q3, rfl, hH⟩
 refine ⟨_, rfl, ?_⟩
 clear H hcon; have H := hH; clear hH
 refine pM 1 rfl (pL (pT (pZ ?_)))
 replace H := H.sub (.cons_cons _ (.cons _ (.cons _ (.refl _))))
 rw [show vec (bOr (sIn 0) (ofs ⟨#[13, 10]⟩)) = vec (sIn 1) from vec_ext (all256 e_whitespace)] at H
 intro a S
 exact r_ret1 S rfl rfl ⟨_, rfl, H⟩
theorem e_nonPrintable : (List.range 256).all (fun i => (bOr (upto 32 (fun _ => true) (fun _ => false)) (ofs ⟨#[127]⟩)) i == sIn 3 i) = true := by decide +kernel
theorem b_nonPrintable (wb w0 : World) (B : Nat) (L0 : List (Nat × Obj)) (H : HH B wb w0 L0) : Calls Tryz.prog 73 #[] w0 fun e w' => ∃ g, e = .returned (.pointer (some ⟨g, 0, none⟩)) ∧ HH B wb w' ((g, .cells (vec (sIn 3)).toArray 124 (0, 0)) :: L0) := by
 refine c_enter (args := []) (k := 4) Tryz.func73 rfl rfl rfl ?_
 refine pS (pG (pM 1 rfl (pL (pT (pS (pG ?_))))))
 have hcon := brange wb _ B _ H
 refine pC Tryz.func90 hcon ?_
 rintro e w ⟨q1, rfl, hH⟩
 refine ⟨_, rfl, ?_⟩
 clear H hcon; have H := hH; clear hH
 have hcon := bnew wb _ B _ ⟨#[127]⟩ (by decide) H
 refine pC Tryz.func72 hcon ?_
 rintro e w ⟨q2, rfl, hH⟩
 refine ⟨_, rfl, ?_⟩
 clear H hcon; have H := hH; clear hH
 have hcon := bunion wb _ B _ _ _ _ _ m1 m0 H
 refine pC Tryz.func80 hcon ?_
 rintro e w ⟨q3, rfl, hH⟩
 refine ⟨_, rfl, ?_⟩
 clear H hcon; have H := hH; clear hH
 refine pM 1 rfl (pL (pT (pZ ?_)))
 replace H := H.sub (.cons_cons _ (.cons _ (.cons _ (.refl _))))
 rw [show vec (bOr (upto 32 (fun _ => true) (fun _ => false)) (ofs ⟨#[127]⟩)) = vec (sIn 3) from vec_ext (all256 e_nonPrintable)] at H
 intro a S
 exact r_ret1 S rfl rfl ⟨_, rfl, H⟩
theorem e_tagKeyChars : (List.range 256).all (fun i => (bNot (bOr (bOr (ofs ⟨#[44, 61]⟩) (sIn 1)) (sIn 3))) i == sIn 2 i) = true := by decide +kernel
theorem b_tagKeyChars (wb w0 : World) (B : Nat) (L0 : List (Nat × Obj)) (H : HH B wb w0 L0) : Calls Tryz.prog 53 #[] w0 fun e w' => ∃ g, e = .returned (.pointer (some ⟨g, 0, none⟩)) ∧ HH B wb w' ((g, .cells (vec (sIn 2)).toArray 124 (0, 0)) :: L0) := by
 refine c_enter (args := []) (k := 7) Tryz.func53 rfl rfl rfl ?_
 refine pS (pG (pM 1 rfl (pL (pT (pS (pG ?_))))))
 have hcon := bnew wb _ B _ ⟨#[44, 61]⟩ (by decide) H
 refine pC Tryz.func72 hcon ?_
 rintro e w ⟨q1, rfl, hH⟩
 refine ⟨_, rfl, ?_⟩
 clear H hcon; have H := hH; clear hH
 have hcon := b_whitespace wb _ B _ H
 refine pC Tryz.func62 hcon ?_
 rintro e w ⟨q2, rfl, hH⟩
 refine ⟨_, rfl, ?_⟩
 clear H hcon; have H := hH; clear hH
 have hcon := bunion wb _ B _ _ _ _ _ m1 m0 H
 refine pC Tryz.func80 hcon ?_
 rintro e w ⟨q3, rfl, hH⟩
 refine ⟨_, rfl, ?_⟩
 clear H hcon; have H := hH; clear hH
 have hcon := b_nonPrintable wb _ B _ H
 refine pC Tryz.func73 hcon ?_
 rintro e w ⟨q4, rfl, hH⟩
 refine ⟨_, rfl, ?_⟩
 clear H hcon; have H := hH; clear hH
 have hcon := bunion wb _ B _ _ _ _ _ m1 m0 H
 refine pC Tryz.func80 hcon ?_
 rintro e w ⟨q5, rfl, hH⟩
 refine ⟨_, rfl, ?_⟩
 clear H hcon; have H := hH; clear hH
 have hcon := binv wb _ B _ _ _ m0 H
 refine pC Tryz.func74 hcon ?_
 rintro e w ⟨q6, rfl, hH⟩
 refine ⟨_, rfl, ?_⟩
 clear H hcon; have H := hH; clear hH
 refine pM 1 rfl (pL (pT (pZ ?_)))
 replace H := H.sub (.cons_cons _ (.cons _ (.cons _ (.cons _ (.cons _ (.cons _ (.refl _)))))))
 rw [show vec (bNot (bOr (bOr (ofs ⟨#[44, 61]⟩) (sIn 1)) (sIn 3))) = vec (sIn 2) from vec_ext (all256 e_tagKeyChars)] at H
 intro a S
 exact r_ret1 S rfl rfl ⟨_, rfl, H⟩
theorem e_eolChars : (List.range 256).all (fun i => (ofs ⟨#[13, 10]⟩) i == sIn 4 i) = true := by decide +kernel
theorem b_eolChars (wb w0 : World) (B : Nat) (L0 : List (Nat × Obj)) (H : HH B wb w0 L0) : Calls Tryz.prog 76 #[] w0 fun e w' => ∃ g, e = .returned (.pointer (some ⟨g, 0, none⟩)) ∧ HH B wb w' ((g, .cells (vec (sIn 4)).toArray 124 (0, 0)) :: L0) := by
 refine c_enter (args := []) (k := 2) Tryz.func76 rfl rfl rfl ?_
 refine pS (pG (pM 1 rfl (pL (pT (pS (pG ?_))))))
 have hcon := bnew wb _ B _ ⟨#[13, 10]⟩ (by decide) H
 refine pC Tryz.func72 hcon ?_
 rintro e w ⟨q1, rfl, hH⟩
 refine ⟨_, rfl, ?_⟩
 clear H hcon; have H := hH; clear hH
 refine pM 1 rfl (pL (pT (pZ ?_)))
 replace H := H.sub (.cons_cons _ (.refl _))
 rw [show vec (ofs ⟨#[13, 10]⟩) = vec (sIn 4) from vec_ext (all256 e_eolChars)] at H
 intro a S
 exact r_ret1 S rfl rfl ⟨_, rfl, H⟩
theorem e_measurementChars : (List.range 256).all (fun i => (bNot (bOr (ofs ⟨#[44, 32]⟩) (sIn 3))) i == sIn 5 i) = true := by decide +kernel
theorem b_measurementChars (wb w0 : World) (B : Nat) (L0 : List (Nat × Obj)) (H : HH B wb w0 L0) : Calls Tryz.prog 46 #[] w0 fun e w' => ∃ g, e = .returned (.pointer (some ⟨g, 0, none⟩)) ∧ HH B wb w' ((g, .cells (vec (sIn 5)).toArray 124 (0, 0)) :: L0) := by
 refine c_enter (args := []) (k := 5) Tryz.func46 rfl rfl rfl ?_
 refine pS (pG (pM 1 rfl (pL (pT (pS (pG ?_))))))
 have hcon := bnew wb _ B _ ⟨#[44, 32]⟩ (by decide) H
 refine pC Tryz.func72 hcon ?_
 rintro e w ⟨q1, rfl, hH⟩
 refine ⟨_, rfl, ?_⟩
 clear H hcon; have H := hH; clear hH
 have hcon := b_nonPrintable wb _ B _ H
 refine pC Tryz.func73 hcon ?_
 rintro e w ⟨q2, rfl, hH⟩
 refine ⟨_, rfl, ?_⟩
 clear H hcon; have H := hH; clear hH
 have hcon := bunion wb _ B _ _ _ _ _ m1 m0 H
 refine pC Tryz.func80 hcon ?_
 rintro e w ⟨q3, rfl, hH⟩
 refine ⟨_, rfl, ?_⟩
 clear H hcon; have H := hH; clear hH
 have hcon := binv wb _ B _ _ _ m0 H
 refine pC Tryz.func74 hcon ?_
 rintro e w ⟨q4, rfl, hH⟩
 refine ⟨_, rfl, ?_⟩
 clear H hcon; have H := hH; clear hH
 refine pM 1 rfl (pL (pT (pZ ?_)))
 replace H := H.sub (.cons_cons _ (.cons _ (.cons _ (.cons _ (.refl _)))))
 rw [show vec (bNot (bOr (ofs ⟨#[44, 32]⟩) (sIn 3))) = vec (sIn 5) from vec_ext (all256 e_measurementChars)] at H
 intro a S
 exact r_ret1 S rfl rfl ⟨_, rfl, H⟩
theorem e_tagValChars : (List.range 256).all (fun i => (bNot (bOr (bOr (ofs ⟨#[44, 61]⟩) (sIn 1)) (sIn 3))) i == sIn 6 i) = true := by decide +kernel
theorem b_tagValChars (wb w0 : World) (B : Nat) (L0 : List (Nat × Obj)) (H : HH B wb w0 L0) : Calls Tryz.prog 55 #[] w0 fun e w' => ∃ g, e = .returned (.pointer (some ⟨g, 0, none⟩)) ∧ HH B wb w' ((g, .cells (vec (sIn 6)).toArray 124 (0, 0)) :: L0) := by
 refine c_enter (args := []) (k := 7) Tryz.func55 rfl rfl rfl ?_
 refine pS (pG (pM 1 rfl (pL (pT (pS (pG ?_))))))
 have hcon := bnew wb _ B _ ⟨#[44, 61]⟩ (by decide) H
 refine pC Tryz.func72 hcon ?_
 rintro e w ⟨q1, rfl, hH⟩
 refine ⟨_, rfl, ?_⟩
 clear H hcon; have H := hH; clear hH
 have hcon := b_whitespace wb _ B _ H
 refine pC Tryz.func62 hcon ?_
 rintro e w ⟨q2, rfl, hH⟩
 refine ⟨_, rfl, ?_⟩
 clear H hcon; have H := hH; clear hH
 have hcon := bunion wb _ B _ _ _ _ _ m1 m0 H
 refine pC Tryz.func80 hcon ?_
 rintro e w ⟨q3, rfl, hH⟩
 refine ⟨_, rfl, ?_⟩
 clear H hcon; have H := hH; clear hH
 have hcon := b_nonPrintable wb _ B _ H
 refine pC Tryz.func73 hcon ?_
 rintro e w ⟨q4, rfl, hH⟩
 refine ⟨_, rfl, ?_⟩
 clear H hcon; have H := hH; clear hH
 have hcon := bunion wb _ B _ _ _ _ _ m1 m0 H
 refine pC Tryz.func80 hcon ?_
 rintro e w ⟨q5, rfl, hH⟩
 refine ⟨_, rfl, ?_⟩
 clear H hcon; have H := hH; clear hH
 have hcon := binv wb _ B _ _ _ m0 H
 refine pC Tryz.func74 hcon ?_
 rintro e w ⟨q6, rfl, hH⟩
 refine ⟨_, rfl, ?_⟩
 clear H hcon; have H := hH; clear hH
 refine pM 1 rfl (pL (pT (pZ ?_)))
 replace H := H.sub (.cons_cons _ (.cons _ (.cons _ (.cons _ (.cons _ (.cons _ (.refl _)))))))
 rw [show vec (bNot (bOr (bOr (ofs ⟨#[44, 61]⟩) (sIn 1)) (sIn 3))) = vec (sIn 6) from vec_ext (all256 e_tagValChars)] at H
 intro a S
 exact r_ret1 S rfl rfl ⟨_, rfl, H⟩
theorem e_fieldKeyChars : (List.range 256).all (fun i => (sIn 2) i == sIn 7 i) = true := by decide +kernel
theorem b_fieldKeyChars (wb w0 : World) (B : Nat) (L0 : List (Nat × Obj)) (H : HH B wb w0 L0) : Calls Tryz.prog 57 #[] w0 fun e w' => ∃ g, e = .returned (.pointer (some ⟨g, 0, none⟩)) ∧ HH B wb w' ((g, .cells (vec (sIn 7)).toArray 124 (0, 0)) :: L0) := by
 refine c_enter (args := []) (k := 2) Tryz.func57 rfl rfl rfl ?_
 refine pS (pG (pM 1 rfl (pL (pT (pS (pG ?_))))))
 have hcon := b_tagKeyChars wb _ B _ H
 refine pC Tryz.func53 hcon ?_
 rintro e w ⟨q1, rfl, hH⟩
 refine ⟨_, rfl, ?_⟩
 clear H hcon; have H := hH; clear hH
 refine pM 1 rfl (pL (pT (pZ ?_)))
 replace H := H.sub (.cons_cons _ (.refl _))
 rw [show vec (sIn 2) = vec (sIn 7) from vec_ext (all256 e_fieldKeyChars)] at H
 intro a S
 exact r_ret1 S rfl rfl ⟨_, rfl, H⟩
theorem e_fieldStringValChars : (List.range 256).all (fun i => (bNot (ofs ⟨#[34]⟩)) i == sIn 8 i) = true := by decide +kernel
theorem b_fieldStringValChars (wb w0 : World) (B : Nat) (L0 : List (Nat × Obj)) (H : HH B wb w0 L0) : Calls Tryz.prog 59 #[] w0 fun e w' => ∃ g, e = .returned (.pointer (some ⟨g, 0, none⟩)) ∧ HH B wb w' ((g, .cells (vec (sIn 8)).toArray 124 (0, 0)) :: L0) := by
 refine c_enter (args := []) (k := 3) Tryz.func59 rfl rfl rfl ?_
 refine pS (pG (pM 1 rfl (pL (pT (pS (pG ?_))))))
 have hcon := bnew wb _ B _ ⟨#[34]⟩ (by decide) H
 refine pC Tryz.func72 hcon ?_
 rintro e w ⟨q1, rfl, hH⟩
 refine ⟨_, rfl, ?_⟩
 clear H hcon; have H := hH; clear hH
 have hcon := binv wb _ B _ _ _ m0 H
 refine pC Tryz.func74 hcon ?_
 rintro e w ⟨q2, rfl, hH⟩
 refine ⟨_, rfl, ?_⟩
 clear H hcon; have H := hH; clear hH
 refine pM 1 rfl (pL (pT (pZ ?_)))
 replace H := H.sub (.cons_cons _ (.cons _ (.refl _)))
 rw [show vec (bNot (ofs ⟨#[34]⟩)) = vec (sIn 8) from vec_ext (all256 e_fieldStringValChars)] at H
 intro a S
 exact r_ret1 S rfl rfl ⟨_, rfl, H⟩
theorem e_fieldValChars : (List.range 256).all (fun i => (bNot (bOr (ofs ⟨#[44]⟩) (sIn 1))) i == sIn 9 i) = true := by decide +kernel
theorem b_fieldValChars (wb w0 : World) (B : Nat) (L0 : List (Nat × Obj)) (H : HH B wb w0 L0) : Calls Tryz.prog 61 #[] w0 fun e w' => ∃ g, e = .returned (.pointer (some ⟨g, 0, none⟩)) ∧ HH B wb w' ((g, .cells (vec (sIn 9)).toArray 124 (0, 0)) :: L0) := by
 refine c_enter (args := []) (k := 5) Tryz.func61 rfl rfl rfl ?_
 refine pS (pG (pM 1 rfl (pL (pT (pS (pG ?_))))))
 have hcon := bnew wb _ B _ ⟨#[44]⟩ (by decide) H
 refine pC Tryz.func72 hcon ?_
 rintro e w ⟨q1, rfl, hH⟩
 refine ⟨_, rfl, ?_⟩
 clear H hcon; have H := hH; clear hH
 have hcon := b_whitespace wb _ B _ H
 refine pC Tryz.func62 hcon ?_
 rintro e w ⟨q2, rfl, hH⟩
 refine ⟨_, rfl, ?_⟩
 clear H hcon; have H := hH; clear hH
 have hcon := bunion wb _ B _ _ _ _ _ m1 m0 H
 refine pC Tryz.func80 hcon ?_
 rintro e w ⟨q3, rfl, hH⟩
 refine ⟨_, rfl, ?_⟩
 clear H hcon; have H := hH; clear hH
 have hcon := binv wb _ B _ _ _ m0 H
 refine pC Tryz.func74 hcon ?_
 rintro e w ⟨q4, rfl, hH⟩
 refine ⟨_, rfl, ?_⟩
 clear H hcon; have H := hH; clear hH
 refine pM 1 rfl (pL (pT (pZ ?_)))
 replace H := H.sub (.cons_cons _ (.cons _ (.cons _ (.cons _ (.refl _)))))
 rw [show vec (bNot (bOr (ofs ⟨#[44]⟩) (sIn 1))) = vec (sIn 9) from vec_ext (all256 e_fieldValChars)] at H
 intro a S
 exact r_ret1 S rfl rfl ⟨_, rfl, H⟩
theorem e_timeChars : (List.range 256).all (fun i => (ofs ⟨#[45, 48, 49, 50, 51, 52, 53, 54, 55, 56, 57]⟩) i == sIn 10 i) = true := by decide +kernel
theorem b_timeChars (wb w0 : World) (B : Nat) (L0 : List (Nat × Obj)) (H : HH B wb w0 L0) : Calls Tryz.prog 63 #[] w0 fun e w' => ∃ g, e = .returned (.pointer (some ⟨g, 0, none⟩)) ∧ HH B wb w' ((g, .cells (vec (sIn 10)).toArray 124 (0, 0)) :: L0) := by
 refine c_enter (args := []) (k := 2) Tryz.func63 rfl rfl rfl ?_
 refine pS (pG (pM 1 rfl (pL (pT (pS (pG ?_))))))
 have hcon := bnew wb _ B _ ⟨#[45, 48, 49, 50, 51, 52, 53, 54, 55, 56, 57]⟩ (by decide) H
 refine pC Tryz.func72 hcon ?_
 rintro e w ⟨q1, rfl, hH⟩
 refine ⟨_, rfl, ?_⟩
 clear H hcon; have H := hH; clear hH
 refine pM 1 rfl (pL (pT (pZ ?_)))
 replace H := H.sub (.cons_cons _ (.refl _))
 rw [show vec (ofs ⟨#[45, 48, 49, 50, 51, 52, 53, 54, 55, 56, 57]⟩) = vec (sIn 10) from vec_ext (all256 e_timeChars)] at H
 intro a S
 exact r_ret1 S rfl rfl ⟨_, rfl, H⟩
theorem e_commentChars : (List.range 256).all (fun i => (bAnd (bNot (sIn 3)) (bNot (sIn 4))) i == sIn 11 i) = true := by decide +kernel
theorem b_commentChars (wb w0 : World) (B : Nat) (L0 : List (Nat × Obj)) (H : HH B wb w0 L0) : Calls Tryz.prog 40 #[] w0 fun e w' => ∃ g, e = .returned (.pointer (some ⟨g, 0, none⟩)) ∧ HH B wb w' ((g, .cells (vec (sIn 11)).toArray 124 (0, 0)) :: L0) := by
 refine c_enter (args := []) (k := 5) Tryz.func40 rfl rfl rfl ?_
 refine pS (pG (pM 1 rfl (pL (pT (pS (pG ?_))))))
 have hcon := b_nonPrintable wb _ B _ H
 refine pC Tryz.func73 hcon ?_
 rintro e w ⟨q1, rfl, hH⟩
 refine ⟨_, rfl, ?_⟩
 clear H hcon; have H := hH; clear hH
 have hcon := binv wb _ B _ _ _ m0 H
 refine pC Tryz.func74 hcon ?_
 rintro e w ⟨q2, rfl, hH⟩
 refine ⟨_, rfl, ?_⟩
 clear H hcon; have H := hH; clear hH
 have hcon := b_eolChars wb _ B _ H
 refine pC Tryz.func76 hcon ?_
 rintro e w ⟨q3, rfl, hH⟩
 refine ⟨_, rfl, ?_⟩
 clear H hcon; have H := hH; clear hH
 have hcon := bwo wb _ B _ _ _ _ _ m1 m0 H
 refine pC Tryz.func75 hcon ?_
 rintro e w ⟨q4, rfl, hH⟩
 refine ⟨_, rfl, ?_⟩
 clear H hcon; have H := hH; clear hH
 refine pM 1 rfl (pL (pT (pZ ?_)))
 replace H := H.sub (.cons_cons _ (.cons _ (.cons _ (.cons _ (.refl _)))))
 rw [show vec (bAnd (bNot (sIn 3)) (bNot (sIn 4))) = vec (sIn 11) from vec_ext (all256 e_commentChars)] at H
 intro a S
 exact r_ret1 S rfl rfl ⟨_, rfl, H⟩
theorem e_notEOL : (List.range 256).all (fun i => (bNot (sIn 4)) i == sIn 12 i) = true := by decide +kernel
theorem b_notEOL (wb w0 : World) (B : Nat) (L0 : List (Nat × Obj)) (H : HH B wb w0 L0) : Calls Tryz.prog 64 #[] w0 fun e w' => ∃ g, e = .returned (.pointer (some ⟨g, 0, none⟩)) ∧ HH B wb w' ((g, .cells (vec (sIn 12)).toArray 124 (0, 0)) :: L0) := by
 refine c_enter (args := []) (k := 3) Tryz.func64 rfl rfl rfl ?_
 refine pS (pG (pM 1 rfl (pL (pT (pS (pG ?_))))))
 have hcon := b_eolChars wb _ B _ H
 refine pC Tryz.func76 hcon ?_
 rintro e w ⟨q1, rfl, hH⟩
 refine ⟨_, rfl, ?_⟩
 clear H hcon; have H := hH; clear hH
 have hcon := binv wb _ B _ _ _ m0 H
 refine pC Tryz.func74 hcon ?_
 rintro e w ⟨q2, rfl, hH⟩
 refine ⟨_, rfl, ?_⟩
 clear H hcon; have H := hH; clear hH
 refine pM 1 rfl (pL (pT (pZ ?_)))
 replace H := H.sub (.cons_cons _ (.cons _ (.refl _)))
 rw [show vec (bNot (sIn 4)) = vec (sIn 12) from vec_ext (all256 e_notEOL)] at H
 intro a S
 exact r_ret1 S rfl rfl ⟨_, rfl, H⟩
theorem e_notNewline : (List.range 256).all (fun i => (bNot (ofs ⟨#[10]⟩)) i == sIn 13 i) = true := by decide +kernel
theorem b_notNewline (wb w0 : World) (B : Nat) (L0 : List (Nat × Obj)) (H : HH B wb w0 L0) : Calls Tryz.prog 88 #[] w0 fun e w' => ∃ g, e = .returned (.pointer (some ⟨g, 0, none⟩)) ∧ HH B wb w' ((g, .cells (vec (sIn 13)).toArray 124 (0, 0)) :: L0) := by
 refine c_enter (args := []) (k := 3) Tryz.func88 rfl rfl rfl ?_
 refine pS (pG (pM 1 rfl (pL (pT (pS (pG ?_))))))
 have hcon := bnew wb _ B _ ⟨#[10]⟩ (by decide) H
 refine pC Tryz.func72 hcon ?_
 rintro e w ⟨q1, rfl, hH⟩
 refine ⟨_, rfl, ?_⟩
 clear H hcon; have H := hH; clear hH
 have hcon := binv wb _ B _ _ _ m0 H
 refine pC Tryz.func74 hcon ?_
 rintro e w ⟨q2, rfl, hH⟩
 refine ⟨_, rfl, ?_⟩
 clear H hcon; have H := hH; clear hH
 refine pM 1 rfl (pL (pT (pZ ?_)))
 replace H := H.sub (.cons_cons _ (.cons _ (.refl _)))
 rw [show vec (bNot (ofs ⟨#[10]⟩)) = vec (sIn 13) from vec_ext (all256 e_notNewline)] at H
 intro a S
 exact r_ret1 S rfl rfl ⟨_, rfl, H⟩
theorem bget (wb w0 : World) (B : Nat) (L0 : List (Nat × Obj)) (g x : Nat) (p : Nat → Bool) (hx : x < 256) (hg : (g, Obj.cells (vec p).toArray 124 (0, 0)) ∈ L0) (H : HH B wb w0 L0) : Calls Tryz.prog 52 #[.pointer (some ⟨g, 0, none⟩), .int .u8 (x : Int)] w0 fun e w' => e = .returned (.bool (p x)) ∧ HH B wb w' L0 := by
 refine c_enter (args := [.pointer (some ⟨g, 0, none⟩), .int .u8 (x : Int)]) (k := 8) Tryz.func52 rfl rfl rfl ?_
 refine pS (pG (pM 1 rfl (pL (pT (pS (pG (pM 1 rfl (pP (p_move rfl) rfl (pM 1 rfl (pP (p_indexAddr rfl rfl (fun w => ia_array Tryz.underlying124 sz4 (by omega) (by omega))) rfl (pR H (r_bitM (i := x) rfl (by omega) hx ag4 hg) rfl (pM 1 rfl (pL (pT (pZ ?_)))))))))))))));intro a S
 exact r_ret1 S rfl rfl ⟨rfl, H⟩
end Go.Proofs.YtbahngfpadjbhaaGreatDoor.st
end
section
namespace Go.Proofs.YtbahngfpadjbhaaGreatDoor.dec
open Go.Proofs.YtbahngfpadjbhaaGreatDoor.fx
open Go.RowKit Go.Proofs.HHW Go.Proofs.YtbahngfpadjbhaaGreatDoorW.PrintWords
namespace gm
theorem meRead (w : World) (ad : Addr) : (method (Tryz.prog.types.size + Made.depth) 48 (.pointer (some ad)) "Read").run Tryz.prog w = .ok (126, .pointer (some ad)) w := by kernel_rfl
theorem inf118 : (Tryz.prog.info? 118).map (fun i => i.comparable) = some true := by kernel_rfl
theorem szE : (szB Tryz.prog 120).isSome = true := by kernel_rfl
theorem ag56 : aggB Tryz.prog 56 = some false := by kernel_rfl
theorem fa58_0 (w : World) (g o : Nat) : (Instr.fieldAt 58 (.pointer (some ⟨g, o, none⟩)) 0).run Tryz.prog w = .ok (.pointer (some ⟨g, o + 0, none⟩)) w := by kernel_rfl
set_option maxHeartbeats 2000000 in
theorem readMore_ (wb w0 : World) (D L0 : dc.Bk) (g : Nat) (X : List Int) (p v : Nat) (M : Nat) (sec : Int) (sk : Bool) (eb : Value) (line : Nat) (er : Value) (hD : dc.Dec TY wb g X p v false M sec sk eb line er D) (H : HH wb.heap.size wb w0 (D ++ L0)) (ae : Addr) (hE : wb.cell? ⟨1, 0, none⟩ = some (.iface 118 (.pointer (some ae)))) (hlt : 1 < wb.heap.size) : Calls Tryz.prog 77 #[.pointer (some ⟨g, 0, none⟩)] w0 fun e w' => e = .returned (.tuple #[]) ∧ ∃ v' cm' M' D', dc.Dec TY wb g X p v' cm' M' sec sk eb line er D' ∧ ∃ G, HH wb.heap.size wb w' (D' ++ (G ++ L0)) ∧ dc.Keeps D D' G ∧ v ≤ v' ∧ (cm' = true ∨ M' < M) := by
 obtain ⟨rd, A, l, c, r0, mb, mr, hDe, hbuf, hrd, hr0, hvX, hdr, hsz, hpX⟩ := hD
 have hVis := fun gt ot t => dc.vis_buf (gt := gt) (ot := ot) (t := t) hDe hbuf
 rw [hDe] at H
 clear hDe
 replace H := dc.open_.1 H
 rcases hrd with ⟨h, _⟩ | ⟨_, gr, s, Az, zs, cz, ap, rfl, hX, rfl, hC, hzc, hpg, haM⟩
 ·
  cases h
 obtain ⟨hlc, hcb, _⟩ := id hbuf
 replace hcb := hcb rfl
 replace H : HH wb.heap.size wb w0 ((g, _) :: (mb ++ ((gr, _) :: L0))) := H
 refine c_enter (args := [.pointer (some ⟨g, 0, none⟩)]) (k := 129) Tryz.func77 rfl rfl rfl ?_
 refine pS (pS (pG (pM 2 rfl (pA fa58_4 rfl rfl rfl (pD H rfl rfl m0 rfl ag4 rfl (pL (pT (zf (pK (pT (pS ?_)))))))))));intro a S
 refine d_start (id := 1) [] 12 (bA 12 0) H rfl rfl rfl (fun w H => ?_)
 revert a;refine qM [0,1,5,6] rfl (qA 2 fa58_1 rfl rfl rfl rfl (qE 3 H rfl rfl rfl m0 rfl ag23 rfl (qP 4 rfl (p_cap Tryz.underlying23 rfl) rfl (qA 7 fa58_1 rfl rfl rfl rfl (qE 8 H rfl rfl rfl m0 rfl ag23 rfl (qP 9 rfl (p_len Tryz.underlying23 rfl) rfl (qP 10 rfl (p_sub rfl rfl (nat_sub (x := c) (y := l.length) (by omega) (by omega))) rfl (qM [11] rfl (qD (pT ?_))))))))));intro a S
 refine c_cut (fun a w => ∃ l1 : List Int, ∃ r1 : Nat, ∃ c1 : Nat, ∃ gb : Nat, ∃ cs1 : Array Value, ∃ G : dc.Bk, SL a 130 [] [(0, .pointer (some ⟨g, 0, none⟩))] ∧ HH (wb.heap.size) wb w ((g, .cells #[.iface 48 (.pointer (some ⟨gr, 0, none⟩)), .slice (some ⟨gb, 0, none⟩) l1.length c1, .int .i64 (r1 : Int), .int .i64 ((r1 + p : Nat) : Int), .bool false, .int .u8 sec, .bool sk, eb, .int .i64 (line : Int), er] 58 (0, 0)) :: (gb, .cells cs1 5 (0, 0)) :: (gr, .cells #[.string s, .slice Az zs.length cz, .int .i64 (ap : Int), .bool false] 84 (0, 0)) :: (G ++ L0)) ∧ (∀ gt ot t, dc.Vis D gt ot t → (gt = gb ∧ bf.Row cs1 ot t ∧ ot + t.length ≤ l1.length) ∨ dc.InG G gt ot t) ∧ l1.length + 1 ≤ c1 ∧ cs1.size = c1 ∧ c1 ≤ 1000000000 ∧ (∀ (i : Nat) (v : Int), l1[i]? = some v → cs1[i]? = some (Value.int .u8 v)) ∧ r1 + v = l1.length ∧ l1.drop r1 = X.take v ∧ r1 + X.length ≤ 1000000) ?_ ?_
 ·
  clear S a H; rintro a w ⟨l1, r1, c1, gb, cs1, G, S, H, hinv⟩
  obtain ⟨hKp, hroom, hcs1, hc1, hrow1, hr1, hdr1, hsz1⟩ := hinv
  clear hbuf hlc hcb hr0 hdr hsz
  revert a;refine pS ?_;intro a S
  refine d_start (id := 12) [21] 27 (bA 27 0) H rfl rfl rfl (fun w H => ?_)
  revert a;refine qM [0,1,4,5,8,9,13,14] rfl (qA 2 fa58_0 rfl rfl rfl rfl (qE 3 H rfl rfl rfl m0 rfl ag56 rfl (qA 6 fa58_1 rfl rfl rfl rfl (qE 7 H rfl rfl rfl m0 rfl ag23 rfl (qA 10 fa58_1 rfl rfl rfl rfl (qE 11 H rfl rfl rfl m0 rfl ag23 rfl (qP 12 rfl (p_len Tryz.underlying23 rfl) rfl (qA 15 fa58_1 rfl rfl rfl rfl (qE 16 H rfl rfl rfl m0 rfl ag23 rfl (qP 17 rfl (p_cap Tryz.underlying23 rfl) rfl (qP 18 rfl (p_slice rfl (o_some rfl) (o_some rfl) (fun _ _ => o_none) (fun w => sl_rest Tryz.underlying23 sz5 rfl rfl (by omega))) rfl (qP 19 rfl (p_nilCheckI rfl) rfl (qM [20] rfl ?_)))))))))))))
  have H2 : HH wb.heap.size wb w ((gr, _) :: (gb, _) :: ((g, _) :: (G ++ L0))) := HH.perm H.pull2 (List.Perm.cons _ (List.Perm.swap _ _ _))
  have hcon := read_ wb w _ gr gb s Az zs cz ap cs1 l1.length (c1 - l1.length) ae hE hlt H2 hC (by omega) (by omega) (by omega) (by have := congrArg List.length hX; rw [List.length_drop, ints_len] at this; omega)
  intro a S
  refine d_invoke_last (i := 21) (bA 27 4194303) S rfl rfl rfl rfl (meRead _ _) Tryz.func126 rfl rfl hcon (wanted_none rfl) rfl rfl (by kernel_rfl) rfl ?_; clear hcon H2
  rintro e w (⟨hs0, rfl, hH⟩ | ⟨hs1, rfl, hH⟩)
  ·
   refine ⟨_, rfl, ?_⟩;clear S a; clear H; have H := HH.perm hH.pull2 (List.Perm.cons _ (List.Perm.swap _ _ _)); clear hH
   refine qM [22,23,24,25,26] rfl (qD (pT (pS ?_)));intro a S
   refine d_start (id := 13) [15] 16 (bA 16 0) H rfl rfl rfl (fun w H => ?_)
   revert a;refine qM [0,1,2,5,6,10] rfl (qA 3 fa58_1 rfl rfl rfl rfl (qE 4 H rfl rfl rfl m0 rfl ag23 rfl (qA 7 fa58_1 rfl rfl rfl rfl (qE 8 H rfl rfl rfl m0 rfl ag23 rfl (qP 9 rfl (p_len Tryz.underlying23 rfl) rfl (qP 11 rfl (p_add rfl rfl (nat_add (x := l1.length) (y := 0) (by omega))) rfl (qP 12 rfl (p_slice rfl (fun _ _ => o_none) (o_some rfl) (fun _ _ => o_none) (fun w => sl_hi (m := (l1.length + 0)) Tryz.underlying23 sz5 rfl (by omega))) rfl (qM [13] rfl (qA 14 fa58_1 rfl rfl rfl rfl ?_)))))))));intro a S
   refine d_store (i := 15) (bA 16 65535) S H rfl rfl rfl rfl .here (by first | decide | simp [Value.cells]) (fun w u hc hz => st1 sz23 rfl hc hz) (wanted_none rfl) rfl (by kernel_rfl) rfl ?_; clear S a H; intro w a H S
   revert a;refine qD (pT (pS (pS (pG (pM 1 rfl (pP (p_ifnil mi51 rfl rfl) rfl (pL (pT (zf (pK (pT (pS (pG (pM 2 rfl (pA fa58_4 rfl rfl rfl (pE H rfl rfl rfl .here (by first | decide | simp [Value.cells]) sz4 ?_))))))))))))))));clear H;intro w H
   refine pL (pT (pS (pG (pM 1 rfl (pR H (r_loadG rfl hE hlt ag51) rfl (pP (p_ifsame mi51 inf118 Tryz.underlying118 szE rfl rfl) rfl (pL (pT (zf (pK ?_))))))))))
   replace H : HH wb.heap.size wb _ (((g, _) :: ([(gb, .cells cs1 5 (0, 0))] ++ [])) ++ (G ++ L0)) := HH.sub H (((List.sublist_cons_self _ _).cons_cons _).cons_cons _)
   intro a S
   exact r_end0 S rfl ⟨rfl, v, true, 0, _, ⟨_, some ⟨gb, 0, none⟩, l1, c1, r1, [(gb, .cells cs1 5 (0, 0))], [], rfl, ⟨by omega, ⟨fun h => (by cases h), .inr ⟨gb, cs1, (0, 0), rfl, hcs1, rfl, fun _ => rfl, hrow1⟩⟩⟩, .inl ⟨rfl, by rw [hX]; exact List.length_eq_zero_iff.1 (by rw [ints_len]; omega), rfl⟩, hr1, hvX, hdr1, hsz1, hpX⟩, G, H, fun gt ot t h => by rcases hKp gt ot t h with ⟨q1, q2, q3⟩ | h; subst q1; exact .inl (dc.vis_mk rfl (q3) (q2)); exact .inr h, Nat.le_refl _, .inl rfl⟩
  refine ⟨_, rfl, ?_⟩;clear S a; clear H; have H := HH.perm hH.pull2 (List.Perm.cons _ (List.Perm.swap _ _ _)); clear hH
  have hkl := dc.took_le zs ap s.size (c1 - l1.length)
  have hkr : dc.took zs ap s.size (c1 - l1.length) ≤ c1 - l1.length := dc.took_room _ _ _ _
  refine qM [22,23,24,25,26] rfl (qD (pT (pS ?_)));intro a S
  refine d_start (id := 13) [15] 16 (bA 16 0) H rfl rfl rfl (fun w H => ?_)
  revert a;refine qM [0,1,2,5,6,10] rfl (qA 3 fa58_1 rfl rfl rfl rfl (qE 4 H rfl rfl rfl m0 rfl ag23 rfl (qA 7 fa58_1 rfl rfl rfl rfl (qE 8 H rfl rfl rfl m0 rfl ag23 rfl (qP 9 rfl (p_len Tryz.underlying23 rfl) rfl (qP 11 rfl (p_add rfl rfl (nat_add (x := l1.length) (y := (dc.took zs ap s.size (c1 - l1.length))) (by omega))) rfl (qP 12 rfl (p_slice rfl (fun _ _ => o_none) (o_some rfl) (fun _ _ => o_none) (fun w => sl_hi (m := (l1.length + (dc.took zs ap s.size (c1 - l1.length)))) Tryz.underlying23 sz5 rfl (by omega))) rfl (qM [13] rfl (qA 14 fa58_1 rfl rfl rfl rfl ?_)))))))));intro a S
  refine d_store (i := 15) (bA 16 65535) S H rfl rfl rfl rfl .here (by first | decide | simp [Value.cells]) (fun w u hc hz => st1 sz23 rfl hc hz) (wanted_none rfl) rfl (by kernel_rfl) rfl ?_; clear S a H; intro w a H S
  revert a;refine qD (pT (pS (pS (pG (pM 1 rfl (pP (p_nilnil mi51 rfl) rfl (pL (pT (zt (pZ (pU ?_)))))))))))
  have e3 : l1.length + dc.took zs ap s.size (c1 - l1.length) = (l1 ++ (ints s).take (dc.took zs ap s.size (c1 - l1.length))).length := by rw [List.length_append, List.length_take, ints_len]; omega
  obtain ⟨q1, q2, q3, q4⟩ := dc.grow_ hdr1 hr1 hX hkl hvX
  rw [ints_len] at hpg
  obtain ⟨M', hM1, hM2, hM3⟩ := hpg.step hs1 (show 0 < c1 - l1.length by omega)
  have hrow2 := dc.spl_row (t := (ints s).take (dc.took zs ap s.size (c1 - l1.length))) hrow1 (by rw [hcs1, List.length_take, ints_len]; omega)
  rw [List.map_take] at hrow2
  rw [e3] at H
  intro a S
  exact r_ret0 S rfl ⟨rfl, v + dc.took zs ap s.size (c1 - l1.length), false, M', _, ⟨_, some ⟨gb, 0, none⟩, _, c1, r1, [(gb, .cells _ 5 (0, 0))], [(gr, _)], rfl, ⟨by rw [← e3]; omega, ⟨fun _ => hc1, .inr ⟨gb, _, (0, 0), rfl, by rw [spl_size]; exact hcs1, rfl, fun _ => rfl, hrow2⟩⟩⟩, .inr ⟨rfl, gr, _, Az, zs, cz, _, rfl, q4, rfl, hC, hzc, by rw [ints_len, dc.ext_size hkl]; exact hM2, by omega⟩, q2, q3, q1, hsz1, hpX⟩, G, H, fun gt ot t h => by rcases hKp gt ot t h with ⟨q1, q2, q3⟩ | h; subst q1; exact .inl (dc.vis_mk rfl (by rw [← e3]; omega) (dc.row_keep q2 q3)); exact .inr h, by omega, .inr hM1⟩
 revert a;refine pS (pG (pM 1 rfl (pP (p_lss rfl rfl) rfl (pL (pT (zc rfl (fun bc10 => ?_) (fun bc10 => ?_)))))))
 ·
  have c10 := of_decide_eq_true bc10
  refine pS ?_;intro a S
  refine d_start (id := 3) [] 11 (bA 11 0) H rfl rfl rfl (fun w H => ?_)
  revert a;refine qM [0,1,5,6] rfl (qA 2 fa58_1 rfl rfl rfl rfl (qE 3 H rfl rfl rfl m0 rfl ag23 rfl (qP 4 rfl (p_len Tryz.underlying23 rfl) rfl (qA 7 fa58_2 rfl rfl rfl rfl (qE 8 H rfl rfl rfl m0 rfl ag3 rfl (qP 9 rfl (p_sub rfl rfl (nat_sub (x := l.length) (y := r0) (by omega) (by omega))) rfl (qM [10] rfl (qD (pT (pS (pG (pM 2 rfl (pA fa58_1 rfl rfl rfl (pD H rfl rfl m0 rfl ag23 rfl (pP (p_cap Tryz.underlying23 rfl) rfl (pP (p_mul rfl rfl (nat_mul (x := c) (y := 2) (by omega))) rfl (pM 1 rfl (pL (pT ?_)))))))))))))))))));intro a S
  refine c_cut (fun a w => ∃ n1 : Nat, SL a 130 [] [(0, .pointer (some ⟨g, 0, none⟩)), (3, .int .i64 ((l.length - r0 : Nat) : Int)), (4, .int .i64 (n1 : Int))] ∧ HH (wb.heap.size) wb w ((g, .cells #[.iface 48 (.pointer (some ⟨gr, 0, none⟩)), .slice A l.length c, .int .i64 (r0 : Int), .int .i64 ((r0 + p : Nat) : Int), .bool false, .int .u8 sec, .bool sk, eb, .int .i64 (line : Int), er] 58 (0, 0)) :: (mb ++ ((gr, .cells #[.string s, .slice Az zs.length cz, .int .i64 (ap : Int), .bool false] 84 (0, 0)) :: L0))) ∧ l.length - r0 + 8192 ≤ n1 ∧ n1 ≤ 100000000) ?_ ?_
  ·
   clear S a H; rintro a w ⟨n1, S, H, hinv⟩
   obtain ⟨hn1, hn2⟩ := hinv
   revert a;refine pS (pG (pM 2 rfl ?_));intro a S
   refine l_make S H rfl rfl rfl Tryz.underlying23 in5 (by omega) (by omega) (by omega) rfl rfl rfl ?_; clear S a H; intro gn11 csgn11 w a hcsgn11 H S
   revert a;refine pM 1 rfl (pL (pT (pS ?_)));intro a S
   refine d_start (id := 8) [10] 11 (bA 11 0) H rfl rfl rfl (fun w H => ?_)
   revert a;refine qM [0,1,2,5,6] rfl (qA 3 fa58_1 rfl rfl rfl rfl (qE 4 H rfl rfl rfl m1 rfl ag23 rfl (qA 7 fa58_2 rfl rfl rfl rfl (qE 8 H rfl rfl rfl m1 rfl ag3 rfl (qP 9 rfl (p_slice rfl (o_some rfl) (fun _ _ => o_none) (fun _ _ => o_none) (fun w => sl_lo Tryz.underlying23 sz5 rfl (by omega))) rfl ?_)))));intro a S
   refine d_copy (i := 10) (bA 11 2047) S H rfl rfl rfl rfl Tryz.underlying23 sz5 (hbuf.first H.tail.tail (by omega)) (by rw [hcsgn11]; omega) (Nat.min_self _) .here (wanted_none rfl) rfl rfl (by kernel_rfl) rfl ?_; clear S a H; intro w a H S
   revert a;refine qD (pT (pS (pG (pM 3 rfl (pA fa58_1 rfl rfl rfl (pE H rfl rfl rfl (.there .here) (by first | decide | simp [Value.cells]) sz23 ?_))))));clear H;intro w H
   refine pL (pT (pS ?_));intro a S
   refine d_start (id := 10) [11] 12 (bA 12 0) H rfl rfl rfl (fun w H => ?_)
   revert a;refine qM [0,1,4,5] rfl (qA 2 fa58_3 rfl rfl rfl rfl (qE 3 H rfl rfl rfl m1 rfl ag3 rfl (qA 6 fa58_2 rfl rfl rfl rfl (qE 7 H rfl rfl rfl m1 rfl ag3 rfl (qP 8 rfl (p_sub rfl rfl (nat_sub (x := (r0 + p)) (y := r0) (by omega) (by omega))) rfl (qM [9] rfl (qA 10 fa58_3 rfl rfl rfl rfl ?_)))))));intro a S
   refine d_store (i := 11) (bA 12 4095) S H rfl rfl rfl rfl (.there .here) (by first | decide | simp [Value.cells]) (fun w u hc hz => st1 sz3 rfl hc hz) (wanted_none rfl) rfl (by kernel_rfl) rfl ?_; clear S a H; intro w a H S
   revert a;refine qD (pT (pG (pM 2 rfl (pA fa58_2 rfl rfl rfl (pE H rfl rfl rfl (.there .here) (by first | decide | simp [Value.cells]) sz3 ?_)))));clear H;intro w H
   refine pL (pT ?_)
   have e2 : l.length - r0 = (l.drop r0).length := List.length_drop.symm
   have e1 : r0 + p - r0 = 0 + p := by omega
   replace H : HH wb.heap.size wb _ ((g, _) :: (_, _) :: (gr, _) :: (mb ++ L0)) := HH.perm H.pull1 (List.Perm.cons _ (List.Perm.cons _ List.perm_middle))
   rw [e1, ← List.map_take, e2, List.take_of_length_le (Nat.le_refl _)] at H
   rw [e2] at hn1
   intro a S
   exact ⟨(l.drop r0), 0, n1, gn11, _, mb, S.only ⟨rfl, trivial⟩, H, ⟨fun gt ot t h => by obtain ⟨cs, f, q1, q2, q3, q4⟩ := hVis gt ot t h; exact .inr ⟨cs, _, f, by rw [q2]; exact m0, q4⟩, by omega, by rw [spl_size, hcsgn11], by omega, dc.spl_row0 (by rw [hcsgn11]; omega), by rw [← e2]; omega, by rw [List.drop_zero, hdr], by omega⟩⟩
  revert a;refine pS (pG (pM 2 rfl (pP (p_sub rfl rfl (nat_sub (x := (c * 2)) (y := (l.length - r0)) (by omega) (by omega))) rfl (pP (p_lss rfl rfl) rfl (pL (pT (zc rfl (fun bc13 => ?_) (fun bc13 => ?_))))))))
  ·
   have c13 := of_decide_eq_true bc13
   refine pG (pM 1 rfl (pP (p_add rfl rfl (nat_add (x := (l.length - r0)) (y := 8192) (by omega))) rfl (pM 1 rfl (pL (pT ?_)))));intro a S
   exact ⟨((l.length - r0) + 8192), S.only ⟨rfl, rfl, rfl, trivial⟩, H, ⟨by omega, by omega⟩⟩
  have c13 := of_decide_eq_false bc13
  refine pK (pT ?_);intro a S
  exact ⟨(c * 2), S.only ⟨rfl, rfl, rfl, trivial⟩, H, ⟨by omega, by omega⟩⟩
 have c10 := of_decide_eq_false bc10
 refine pK (pT ?_)
 obtain ⟨gb, cs, f, rfl, hcs, rfl, hf, hrow⟩ := hbuf.ex' (by omega)
 obtain rfl := hf rfl
 replace H : HH wb.heap.size wb _ ((g, _) :: (gb, .cells cs 5 (0, 0)) :: (gr, _) :: L0) := H
 intro a S
 exact ⟨l, r0, c, gb, cs, [], S.only ⟨rfl, trivial⟩, H, ⟨fun gt ot t h => by obtain ⟨cs', f', q1, q2, q3, q4⟩ := hVis gt ot t h; injection q1 with q1; injection q1 with q1; subst q1; simp only [List.cons.injEq, Prod.mk.injEq, Obj.cells.injEq, true_and, and_true] at q2; obtain ⟨q5, _⟩ := q2; subst q5; exact .inl ⟨rfl, q4, q3⟩, by omega, hcs, hcb, hrow, hr0, hdr, hsz⟩⟩
end gm
end Go.Proofs.YtbahngfpadjbhaaGreatDoor.dec
end
section
namespace Go.Proofs.YtbahngfpadjbhaaGreatDoor.dec
open Go.Proofs.YtbahngfpadjbhaaGreatDoor.fx
open Go.RowKit Go.Proofs.HHW Go.Proofs.YtbahngfpadjbhaaGreatDoorW.PrintWords
namespace ge
theorem ensure1_ (wb w0 : World) (D0 L0 : dc.Bk) (g : Nat) (X : List Int) (p v : Nat) (cm : Bool) (M : Nat) (sec : Int) (sk : Bool) (eb : Value) (line : Nat) (er : Value) (hD0 : dc.Dec TY wb g X p v cm M sec sk eb line er D0) (H : HH wb.heap.size wb w0 (D0 ++ L0)) (i : Nat) (hi : i ≤ 1000000) (hv : v < p + i) (ae : Addr) (hE : wb.cell? ⟨1, 0, none⟩ = some (.iface 118 (.pointer (some ae)))) (hlt : 1 < wb.heap.size) : Calls Tryz.prog 43 #[.pointer (some ⟨g, 0, none⟩), .int .i64 (i : Int)] w0 fun e w' => e = .returned (.bool (decide (p + i ≤ X.length))) ∧ ∃ v' cm' M' D', dc.Dec TY wb g X p v' cm' M' sec sk eb line er D' ∧ ∃ G, HH wb.heap.size wb w' (D' ++ (G ++ L0)) ∧ dc.Keeps D0 D' G ∧ (p + i ≤ X.length → p + i ≤ v') ∧ (X.length < p + i → v' = X.length) := by
 refine c_enter (args := [.pointer (some ⟨g, 0, none⟩), .int .i64 (i : Int)]) (k := 21) Tryz.func43 rfl rfl rfl ?_
 refine pS (pG (pM 1 rfl (pL (pT (pB ?_)))));intro a S
 refine c_loop (σ := Nat × Bool × Nat × dc.Bk × dc.Bk) (fun s_ a w => match s_ with | ⟨v, cm, M, D, G⟩ => SL a 23 [] [(0, .pointer (some ⟨g, 0, none⟩)), (1, .int .i64 (i : Int))] ∧ HH (wb.heap.size) wb w (D ++ (G ++ L0)) ∧ (dc.Dec TY wb g X p v cm M sec sk eb line er D ∧ dc.Keeps D0 D G ∧ v < p + i)) (fun s_ => match s_ with | ⟨v, cm, M, D, G⟩ => (if cm then 0 else M + 1)) ⟨v, cm, M, D0, []⟩ ⟨S.only ⟨rfl, rfl, trivial⟩, H, ⟨hD0, dc.Keeps.refl _, hv⟩⟩ ?_
 clear S a H; rintro ⟨v, cm, M, D, G⟩ a w ⟨S, H, hinv⟩
 obtain ⟨hD, hKe, hv⟩ := hinv
 obtain ⟨rd, A, l, c, r0, mb, mr, hDe, hbuf, hrd, hr0, hvX, hdr, hsz, hpX⟩ := id hD
 subst hDe
 replace H := dc.open_.1 H
 revert a;refine pB (pS (pS (pG (pM 2 rfl (pA fa58_4 rfl rfl rfl (pD H rfl rfl m0 rfl ag4 rfl (pL (pT (zc rfl (fun bc3 => ?_) (fun bc3 => ?_))))))))))
 ·
  have c3 := bc3
  subst c3
  refine pS (pG (pM 1 rfl (pL (pT (pZ (pU (pJ (pU (pJ ?_)))))))))
  have hall := hD.all
  intro a S
  exact r_ret1 S rfl rfl ⟨by rw [decide_eq_false (show ¬ p + i ≤ X.length by omega)], v, true, M, _, hD, _, dc.open_.2 H, hKe, fun h => absurd h (by omega), fun _ => hall⟩
 have c3 := bc3
 subst c3
 refine pK (pT (pS (pG (pM 1 rfl ?_))))
 replace H := dc.open_.2 H
 have hcon := gm.readMore_ wb _ _ (G ++ L0) g X p v M sec sk eb line er hD H ae hE hlt
 refine pC Tryz.func77 hcon ?_
 rintro e w ⟨rfl, v', cm', M', D', hD', G', hH, hK', hvv, hpr⟩
 refine ⟨_, rfl, ?_⟩
 clear H hcon; have H := hH; rw [← List.append_assoc G' G L0] at H; clear hH
 obtain ⟨rd', A', l', c', r0', mb', mr', hDe, hbuf', hrd', hr0', hvX', hdr', hsz', hpX'⟩ := id hD'
 subst hDe
 replace H := dc.open_.1 H
 refine pL (pT (pS ?_));intro a S
 refine d_start (id := 4) [] 12 (bA 12 0) H rfl rfl rfl (fun w H => ?_)
 revert a;refine qM [0,1,4,6,7] rfl (qA 2 fa58_3 rfl rfl rfl rfl (qE 3 H rfl rfl rfl m0 rfl ag3 rfl (qP 5 rfl (p_add rfl rfl (nat_add (x := (r0' + p)) (y := i) (by omega))) rfl (qA 8 fa58_1 rfl rfl rfl rfl (qE 9 H rfl rfl rfl m0 rfl ag23 rfl (qP 10 rfl (p_len Tryz.underlying23 rfl) rfl (qP 11 rfl (p_leq rfl rfl) rfl (qD (pT (zc rfl (fun bc6 => ?_) (fun bc6 => ?_)))))))))))
 ·
  have c6 := of_decide_eq_true bc6
  refine pS (pG (pM 1 rfl (pL (pT (pZ (pJ (pU (pJ ?_))))))));intro a S
  exact r_ret1 S rfl rfl ⟨by rw [decide_eq_true (show p + i ≤ X.length by omega)], v', cm', M', _, hD', _, dc.open_.2 H, hKe.trans hK', fun _ => by omega, fun h => absurd h (by omega)⟩
 have c6 := of_decide_eq_false bc6
 refine pK (pI 1 ?_)
 replace H := dc.open_.2 H
 refine pT ?_;intro a S
 exact ⟨⟨v', cm', M', _, G' ++ G⟩, ⟨S.only ⟨rfl, rfl, trivial⟩, H, ⟨hD', hKe.trans hK', by omega⟩⟩, (show (if cm' then 0 else M' + 1) < (if false then 0 else M + 1) from by rcases hpr with h | h <;> simp [h] <;> (try split) <;> omega)⟩
theorem ensure_ (wb w0 : World) (D0 L0 : dc.Bk) (g : Nat) (X : List Int) (p v : Nat) (cm : Bool) (M : Nat) (sec : Int) (sk : Bool) (eb : Value) (line : Nat) (er : Value) (hD0 : dc.Dec TY wb g X p v cm M sec sk eb line er D0) (H : HH wb.heap.size wb w0 (D0 ++ L0)) (i : Nat) (hi : i ≤ 1000000) (ae : Addr) (hE : wb.cell? ⟨1, 0, none⟩ = some (.iface 118 (.pointer (some ae)))) (hlt : 1 < wb.heap.size) : Calls Tryz.prog 22 #[.pointer (some ⟨g, 0, none⟩), .int .i64 (i : Int)] w0 fun e w' => e = .returned (.bool (decide (p + i ≤ X.length))) ∧ ∃ v' cm' M' D', dc.Dec TY wb g X p v' cm' M' sec sk eb line er D' ∧ ∃ G, HH wb.heap.size wb w' (D' ++ (G ++ L0)) ∧ dc.Keeps D0 D' G ∧ (p + i ≤ X.length → p + i ≤ v') ∧ (X.length < p + i → v' = X.length) := by
 obtain ⟨rd, A, l, c, r0, mb, mr, hDe, hbuf, hrd, hr0, hvX, hdr, hsz, hpX⟩ := id hD0
 subst hDe
 replace H := dc.open_.1 H
 refine c_enter (args := [.pointer (some ⟨g, 0, none⟩), .int .i64 (i : Int)]) (k := 18) Tryz.func22 rfl rfl rfl ?_
 refine pS (pG (pM 1 rfl (pL (pT (pS (pS ?_))))));intro a S
 refine d_start (id := 1) [] 12 (bA 12 0) H rfl rfl rfl (fun w H => ?_)
 revert a;refine qM [0,1,4,6,7] rfl (qA 2 fa58_3 rfl rfl rfl rfl (qE 3 H rfl rfl rfl m0 rfl ag3 rfl (qP 5 rfl (p_add rfl rfl (nat_add (x := (r0 + p)) (y := i) (by omega))) rfl (qA 8 fa58_1 rfl rfl rfl rfl (qE 9 H rfl rfl rfl m0 rfl ag23 rfl (qP 10 rfl (p_len Tryz.underlying23 rfl) rfl (qP 11 rfl (p_leq rfl rfl) rfl (qD (pT (zc rfl (fun bc3 => ?_) (fun bc3 => ?_)))))))))))
 ·
  have c3 := of_decide_eq_true bc3
  refine pS (pG (pM 1 rfl (pL (pT (pZ (pU ?_))))));intro a S
  exact r_ret1 S rfl rfl ⟨by rw [decide_eq_true (show p + i ≤ X.length by omega)], v, cm, M, _, hD0, [], dc.open_.2 H, dc.Keeps.refl _, fun _ => by omega, fun h => by omega⟩
 have c3 := of_decide_eq_false bc3
 refine pK (pT (pS (pG (pM 2 rfl ?_))))
 replace H := dc.open_.2 H
 have hcon := ensure1_ wb _ _ L0 g X p v cm M sec sk eb line er hD0 H i hi (by omega) ae hE hlt
 refine pC Tryz.func43 hcon ?_
 rintro e w ⟨rfl, hgive⟩
 refine ⟨_, rfl, ?_⟩
 clear H hcon
 refine pM 1 rfl (pL (pT (pZ ?_)));intro a S
 exact r_ret1 S rfl rfl ⟨rfl, hgive⟩
theorem takeEOL_ (wb w0 : World) (D L0 : dc.Bk) (g : Nat) (X : List Int) (p v : Nat) (cm : Bool) (M : Nat) (sec : Int) (sk : Bool) (eb : Value) (line : Nat) (er : Value) (hD : dc.Dec TY wb g X p v cm M sec sk eb line er D) (H : HH wb.heap.size wb w0 (D ++ L0)) (hl : line ≤ 1000000000000) (ae : Addr) (hE : wb.cell? ⟨1, 0, none⟩ = some (.iface 118 (.pointer (some ae)))) (hlt : 1 < wb.heap.size) : Calls Tryz.prog 41 #[.pointer (some ⟨g, 0, none⟩)] w0 fun e w' => ∃ b k n v' cm' M' D', e = .returned (.bool b) ∧ dc.eol X p = (b, k, n) ∧ dc.Dec TY wb g X (p + k) v' cm' M' sec sk eb (line + n) er D' ∧ ∃ G, HH wb.heap.size wb w' (D' ++ (G ++ L0)) ∧ dc.Keeps D D' G := by
 refine c_enter (args := [.pointer (some ⟨g, 0, none⟩)]) (k := 37) Tryz.func41 rfl rfl rfl ?_
 refine pS (pG (pM 1 rfl (pL (pT (pS (pS (pG (pM 1 rfl ?_))))))))
 have hcon := ensure_ wb _ _ L0 g X p v cm M sec sk eb line er hD H 1 (by omega) ae hE hlt
 refine pC Tryz.func22 hcon ?_
 rintro e w ⟨rfl, v1, cm1, M1, D1, hD1, G1, hH, hK1, hv1, hw1⟩
 refine ⟨_, rfl, ?_⟩
 clear H hcon hD; have H := hH; have hD := hD1; clear hH hD1
 refine pP (p_not rfl) rfl (pL (pT (zc rfl (fun bc4 => ?_) (fun bc4 => ?_))))
 ·
  have c4 := not_eq_true_ bc4
  have c4 := of_decide_eq_false c4
  refine pS (pG (pM 1 rfl (pL (pT (pZ (pU ?_))))));intro a S
  refine r_ret1 S rfl rfl ⟨_, 0, 0, v1, cm1, M1, _, rfl, ?_, hD, _, H, hK1⟩
  unfold dc.eol
  repeat' split
  all_goals first | rfl | (exfalso; omega)
 have c4 := not_eq_false_ bc4
 have c4 := of_decide_eq_true c4
 refine pK (pT (pS (pS (pG (pM 1 rfl ?_)))))
 have hcon := at_ wb _ _ (G1 ++ L0) g X p v1 cm1 M1 sec sk eb line er hD H 0 (by omega)
 rw [if_pos (show p + 0 < v1 by omega)] at hcon
 simp only [Nat.add_zero] at hcon
 refine pC Tryz.func39 hcon ?_
 rintro e w ⟨rfl, hH⟩
 refine ⟨_, rfl, ?_⟩
 clear H hcon; have H := hH; clear hH
 refine pL (pT (pB (pS (pG (pP (p_eql rfl rfl) rfl (pM 1 rfl (pL (pT (zc rfl (fun bc7 => ?_) (fun bc7 => ?_))))))))))
 ·
  have c7 := eq_of_beq bc7
  refine pS (pG (pM 1 rfl ?_))
  have hcon := advance_ wb _ _ (G1 ++ L0) g X p v1 cm1 M1 sec sk eb line er hD H 1 (by omega)
  refine pC Tryz.func42 hcon ?_
  rintro e w ⟨rfl, D9, hD9, hH, hK9⟩
  refine ⟨_, rfl, ?_⟩
  clear H hcon hD; have H := hH; clear hH
  obtain ⟨rd, A, l, c, r0, mb, mr, hDe, hbuf, hrd, hr0, hvX, hdr, hsz, hpX⟩ := id hD9
  replace hK9 := hK1.trans hK9
  subst hDe
  replace H := dc.open_.1 H
  refine pL (pT (pS (pG (pM 2 rfl (pA fa58_8 rfl rfl rfl (pD H rfl rfl m0 rfl ag2 rfl (pP (p_add rfl rfl (nat_add (x := line) (y := 1) (by omega))) rfl (pM 1 rfl (pA fa58_8 rfl rfl rfl (pE H rfl rfl rfl .here (by first | decide | simp [Value.cells]) sz2 ?_))))))))));clear H;intro w H
  refine pL (pT (pS (pG (pM 1 rfl (pL (pT (pZ (pJ (pU ?_)))))))));intro a S
  refine r_ret1 S rfl rfl ⟨_, 1, 1, v1, cm1, M1, _, rfl, ?_, ⟨rd, A, l, c, r0, mb, mr, rfl, hbuf, hrd, hr0, hvX, hdr, hsz, hpX⟩, _, dc.open_.2 H, hK9.then_head rfl⟩
  unfold dc.eol
  repeat' split
  all_goals first | rfl | (exfalso; omega)
 have c7 := ne_of_beq_false bc7
 refine pS (pG (pP (p_eql rfl rfl) rfl (pM 1 rfl (pL (pT (zc rfl (fun bc10 => ?_) (fun bc10 => ?_)))))))
 ·
  have c10 := eq_of_beq bc10
  refine pS (pS (pG (pM 1 rfl ?_)))
  have hcon := ensure_ wb _ _ (G1 ++ L0) g X p v1 cm1 M1 sec sk eb line er hD H 2 (by omega) ae hE hlt
  refine pC Tryz.func22 hcon ?_
  rintro e w ⟨rfl, v2, cm2, M2, D2, hD2, G2, hH, hK2, hv2, hw2⟩
  refine ⟨_, rfl, ?_⟩
  clear H hcon hD; have H := hH; have hD := hD2; clear hH hD2
  replace hK2 := hK1.trans hK2; rw [← List.append_assoc G2 G1 L0] at H
  refine pP (p_not rfl) rfl (pL (pT (zc rfl (fun bc13 => ?_) (fun bc13 => ?_))))
  ·
   have c13 := not_eq_true_ bc13
   have c13 := of_decide_eq_false c13
   refine pS (pG (pM 1 rfl ?_))
   have hcon := advance_ wb _ _ ((G2 ++ G1) ++ L0) g X p v2 cm2 M2 sec sk eb line er hD H 1 (by omega)
   refine pC Tryz.func42 hcon ?_
   rintro e w ⟨rfl, D9, hD9, hH, hK9⟩
   refine ⟨_, rfl, ?_⟩
   clear H hcon hD; have H := hH; clear hH
   obtain ⟨rd, A, l, c, r0, mb, mr, hDe, hbuf, hrd, hr0, hvX, hdr, hsz, hpX⟩ := id hD9
   replace hK9 := hK2.trans hK9
   subst hDe
   replace H := dc.open_.1 H
   refine pL (pT (pS (pG (pM 1 rfl (pL (pT (pZ (pU (pJ (pU ?_))))))))));intro a S
   refine r_ret1 S rfl rfl ⟨_, 1, 0, v2, cm2, M2, _, rfl, ?_, ⟨rd, A, l, c, r0, mb, mr, rfl, hbuf, hrd, hr0, hvX, hdr, hsz, hpX⟩, _, dc.open_.2 H, hK9⟩
   unfold dc.eol
   repeat' split
   all_goals first | rfl | (exfalso; omega)
  have c13 := not_eq_false_ bc13
  have c13 := of_decide_eq_true c13
  refine pK (pT (pS (pG (pM 1 rfl ?_))))
  have hcon := at_ wb _ _ ((G2 ++ G1) ++ L0) g X p v2 cm2 M2 sec sk eb line er hD H 1 (by omega)
  rw [if_pos (show p + 1 < v2 by omega)] at hcon
  refine pC Tryz.func39 hcon ?_
  rintro e w ⟨rfl, hH⟩
  refine ⟨_, rfl, ?_⟩
  clear H hcon; have H := hH; clear hH
  refine pP (p_eql rfl rfl) rfl (pL (pT (zc rfl (fun bc16 => ?_) (fun bc16 => ?_))))
  ·
   have c16 := eq_of_beq bc16
   refine pS (pG (pM 1 rfl ?_))
   have hcon := advance_ wb _ _ ((G2 ++ G1) ++ L0) g X p v2 cm2 M2 sec sk eb line er hD H 2 (by omega)
   refine pC Tryz.func42 hcon ?_
   rintro e w ⟨rfl, D9, hD9, hH, hK9⟩
   refine ⟨_, rfl, ?_⟩
   clear H hcon hD; have H := hH; clear hH
   obtain ⟨rd, A, l, c, r0, mb, mr, hDe, hbuf, hrd, hr0, hvX, hdr, hsz, hpX⟩ := id hD9
   replace hK9 := hK2.trans hK9
   subst hDe
   replace H := dc.open_.1 H
   refine pL (pT (pS (pG (pM 2 rfl (pA fa58_8 rfl rfl rfl (pD H rfl rfl m0 rfl ag2 rfl (pP (p_add rfl rfl (nat_add (x := line) (y := 1) (by omega))) rfl (pM 1 rfl (pA fa58_8 rfl rfl rfl (pE H rfl rfl rfl .here (by first | decide | simp [Value.cells]) sz2 ?_))))))))));clear H;intro w H
   refine pL (pT (pS (pG (pM 1 rfl (pL (pT (pZ (pJ (pU ?_)))))))));intro a S
   refine r_ret1 S rfl rfl ⟨_, 2, 1, v2, cm2, M2, _, rfl, ?_, ⟨rd, A, l, c, r0, mb, mr, rfl, hbuf, hrd, hr0, hvX, hdr, hsz, hpX⟩, _, dc.open_.2 H, hK9.then_head rfl⟩
   unfold dc.eol
   repeat' split
   all_goals first | rfl | (exfalso; omega)
  have c16 := ne_of_beq_false bc16
  refine pK (pI 0 (pT (pS (pG (pM 1 rfl (pL (pT (pZ ?_))))))));intro a S
  refine r_ret1 S rfl rfl ⟨_, 0, 0, v2, cm2, M2, _, rfl, ?_, hD, _, H, hK2⟩
  unfold dc.eol
  repeat' split
  all_goals first | rfl | (exfalso; omega)
 have c10 := ne_of_beq_false bc10
 refine pK (pI 0 (pT (pS (pG (pM 1 rfl (pL (pT (pZ ?_))))))));intro a S
 refine r_ret1 S rfl rfl ⟨_, 0, 0, v1, cm1, M1, _, rfl, ?_, hD, _, H, hK1⟩
 unfold dc.eol
 repeat' split
 all_goals first | rfl | (exfalso; omega)
end ge
end Go.Proofs.YtbahngfpadjbhaaGreatDoor.dec
end
