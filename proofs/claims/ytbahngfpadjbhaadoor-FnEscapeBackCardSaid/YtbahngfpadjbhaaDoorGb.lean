/- The escapers. -/
import Derived.Test.YtbahngfpadjbhaaDoorGa
namespace Go.Proofs.YtbahngfpadjbhaaDoor.dec
open Go.RowKit Go.Proofs.HHW Go.Proofs.YtbahngfpadjbhaaDoorW.PrintWords
set_option linter.unusedVariables false
set_option linter.unusedSimpArgs false
namespace gb
open ga (escT_len)
theorem fa65_0 (w : World) (g o : Nat) : (Instr.fieldAt 65 (.pointer (some ⟨g, o, none⟩)) 0).run Tryd.prog w = .ok (.pointer (some ⟨g, o + 0, none⟩)) w := by kernel_rfl
theorem fa65_1 (w : World) (g o : Nat) : (Instr.fieldAt 65 (.pointer (some ⟨g, o, none⟩)) 1).run Tryd.prog w = .ok (.pointer (some ⟨g, o + 256, none⟩)) w := by kernel_rfl
theorem fa65_2 (w : World) (g o : Nat) : (Instr.fieldAt 65 (.pointer (some ⟨g, o, none⟩)) 2).run Tryd.prog w = .ok (.pointer (some ⟨g, o + 512, none⟩)) w := by kernel_rfl
theorem sz5 : szB Tryd.prog 5 = some 1 := by kernel_rfl
theorem sz9 : szB Tryd.prog 9 = some 1 := by kernel_rfl

theorem zvE : zvB Tryd.prog 65 = some (.agg (escB (fun _ => 0) (fun _ => 0) ⟨#[]⟩)) := by kernel_rfl
theorem trim_q {r : Nat} (h : EscOk r) : (if ga.hp (strOfNums (escT r)) ⟨#[92]⟩ then (strOfNums (escT r)).extract (ByteArray.size ⟨#[92]⟩) (strOfNums (escT r)).size else strOfNums (escT r)) = strOfNums [(eT r : Int)] := by
  rcases h with rfl | rfl | rfl | rfl | rfl | rfl | rfl | rfl <;> decide +kernel
set_option maxRecDepth 20000 in
theorem newE_ (wb w0 : World) (B : Nat) (L0 : List (Nat × Obj)) (s : ByteArray) (hs : s.size ≤ 1000) (hall : ∀ i, i < s.size → ∃ r : Nat, HHW.bt s (i : Int) = (r : Int) ∧ EscOk r) (H : HH B wb w0 L0) : Calls Tryd.prog 57 #[.string s] w0 fun e w' => ∃ g, e = .returned (.pointer (some ⟨g, 0, none⟩)) ∧ HH B wb w' ((g, .cells (escB (tabF (ints s)) (tabH (ints s)) s) 65 (0, 0)) :: L0) := by
  refine c_enter (args := [.string s]) (k := 34) Tryd.func57 rfl rfl rfl (fun a S => ?_)
  refine wp_seq ?_
  refine c_region ?_
  refine l_pure S (p_assign rfl) rfl rfl rfl ?_; clear S a; intro a S
  refine l_nil ?_
  refine e_then ?_
  refine wp_seq ?_
  refine c_region ?_
  refine l_alloc (cs := escB (fun _ => 0) (fun _ => 0) ⟨#[]⟩) S H rfl (fun w => al zvE) rfl rfl rfl ?_; clear S a H; intro ge w a H S
  refine l_nil ?_
  refine e_then ?_
  refine wp_seq ?_
  refine wp_seq ?_
  refine c_region ?_
  refine l_pure S (p_move rfl) rfl rfl rfl ?_; clear S a; intro a S
  refine l_rangeS S H rfl rfl Tryd.underlying9 rfl rfl rfl ?_; clear S a H; intro it w a H S
  refine l_nil ?_
  refine e_then ?_
  refine wp_block ?_
  refine c_loop (σ := Nat) (fun s_ a w => match s_ with | i => SL a 35 [] [(0, .string s), (3, .pointer (some ⟨ge, 0, none⟩)), (8, .pointer (some ⟨it, 0, none⟩))] ∧ HH (B) wb w ((it, .stringIter s i) :: (ge, (.cells (escB (tabF ((ints s).take i)) (tabH ((ints s).take i)) ⟨#[]⟩) 65 (0, 0))) :: L0) ∧ (i ≤ s.size)) (fun s_ => match s_ with | i => s.size - i) 0 ⟨S.only ⟨rfl, rfl, rfl, trivial⟩, H, Nat.zero_le _⟩ ?_
  clear S a H; rintro i a w ⟨S, H, hinv⟩
  refine wp_seq ?_
  refine c_region ?_
  rcases Nat.lt_or_ge i s.size with hi | hi
  · skip
    obtain ⟨r, hr, hok⟩ := hall i hi
    have hrl := hok.lt
    have hel := escT_len r
    have hetl := eT_lt hok
    refine l_nextS S H rfl rfl hi (by omega) rfl rfl rfl ?_; clear S a H; intro w a H S
    rw [hr] at S
    refine l_pure S (p_extract rfl rfl) rfl rfl rfl ?_; clear S a; intro a S
    refine l_nil ?_
    refine e_then ?_
    refine wp_seq ?_
    refine c_cond (b := true) S rfl (fun _ => ?_) (fun h => by cases h)
    refine wp_skip ?_
    refine e_then ?_
    refine wp_block ?_
    refine wp_seq ?_
    refine c_region ?_
    refine l_pure S (p_extract rfl rfl) rfl rfl rfl ?_; clear S a; intro a S
    refine l_pure S (p_assign rfl) rfl rfl rfl ?_; clear S a; intro a S
    refine l_nil ?_
    refine e_then ?_
    refine wp_seq ?_
    refine c_region ?_
    refine l_pure S (p_move rfl) rfl rfl rfl ?_; clear S a; intro a S
    have hcon := ga.quoteRune_ wb _ B _ r hok H
    refine l_call S rfl rfl Tryd.func67 rfl rfl (hcon) rfl rfl rfl ?_
    rintro e w ⟨rfl, hH⟩
    refine ⟨_, rfl, ?_⟩; clear S a; intro a S
    clear H hcon; have H := hH; clear hH
    have hsz : (strOfNums ([39] ++ escT r ++ [39])).size = (escT r).length + 2 := by rw [nums_size]; simp
    refine l_pure S (p_assign rfl) rfl rfl rfl ?_; clear S a; intro a S
    refine l_nil ?_
    refine e_then ?_
    refine wp_seq ?_
    refine c_region ?_
    refine l_pure S (p_move rfl) rfl rfl rfl ?_; clear S a; intro a S
    refine l_pure S (p_move rfl) rfl rfl rfl ?_; clear S a; intro a S
    refine l_pure S (p_lens Tryd.underlying9 rfl) rfl rfl rfl ?_; clear S a; intro a S
    refine l_pure S (p_sub (r := (((escT r).length + 1 : Nat) : Int)) rfl rfl ((IntWalk.i64_in _ (by omega)).trans (by omega))) rfl rfl rfl ?_; clear S a; intro a S
    refine l_pure S (p_slice rfl (o_some rfl) (o_some rfl) (fun _ _ => o_none) (fun w => sl_strN (m := 1) (m' := (escT r).length + 1) Tryd.underlying9 rfl rfl (by omega) (by omega))) rfl rfl rfl ?_; clear S a; intro a S
    rw [cut_q hok] at S
    refine l_pure S (p_assign rfl) rfl rfl rfl ?_; clear S a; intro a S
    refine l_nil ?_
    refine e_then ?_
    refine wp_seq ?_
    refine c_region ?_
    refine l_pure S (p_move rfl) rfl rfl rfl ?_; clear S a; intro a S
    refine l_call S rfl rfl Tryd.func68 rfl rfl (ga.trim_ _ (strOfNums (escT r)) ⟨#[92]⟩ (by rw [nums_size]; omega) (by decide)) rfl rfl rfl ?_
    rintro e w ⟨rfl, hb⟩
    refine ⟨_, rfl, ?_⟩; clear S a; intro a S
    replace H := H.later hb; clear hb
    rw [trim_q hok] at S
    refine l_pure S (p_assign rfl) rfl rfl rfl ?_; clear S a; intro a S
    refine l_nil ?_
    refine e_then ?_
    refine wp_seq ?_
    refine c_region ?_
    refine l_pure S (p_move rfl) rfl rfl rfl ?_; clear S a; intro a S
    refine l_pure S (p_conv rfl (fun w => cv_int (Tryd.underlying21) (Tryd.underlying5) (r := (r : Int)) (by rw [IntKind.wrap_u8]; omega))) rfl rfl rfl ?_; clear S a; intro a S
    refine l_pure S (p_move rfl) rfl rfl rfl ?_; clear S a; intro a S
    refine l_pure S (p_index rfl rfl (fun w => ix_string Tryd.underlying9 (by omega) (by rw [nums_size]; simp))) rfl rfl rfl ?_; clear S a; intro a S
    rw [bt_e hok] at S
    refine l_pure S (p_fieldAddr rfl (fun w => fa65_0 w _ _)) rfl rfl rfl ?_; clear S a; intro a S
    refine l_pure S (p_indexAddr rfl rfl (fun w => ia_array Tryd.underlying63 sz5 (by omega) (by omega))) rfl rfl rfl ?_; clear S a; intro a S
    refine l_store S H rfl rfl rfl (.there .here) (by rw [escB_size]; omega) (fun w u hc hz => st1 sz5 rfl hc hz) rfl rfl ?_; clear S a H; intro w a H S
    have e0 : 0 + (r : Int).toNat * 1 = r := by omega
    rw [e0, escB_setf _ _ _ (by omega)] at H
    refine l_nil ?_
    refine e_then ?_
    refine c_region ?_
    refine l_pure S (p_move rfl) rfl rfl rfl ?_; clear S a; intro a S
    refine l_pure S (p_index rfl rfl (fun w => ix_string Tryd.underlying9 (by omega) (by rw [nums_size]; simp))) rfl rfl rfl ?_; clear S a; intro a S
    rw [bt_e hok] at S
    refine l_pure S (p_move rfl) rfl rfl rfl ?_; clear S a; intro a S
    refine l_pure S (p_conv rfl (fun w => cv_int (Tryd.underlying21) (Tryd.underlying5) (r := (r : Int)) (by rw [IntKind.wrap_u8]; omega))) rfl rfl rfl ?_; clear S a; intro a S
    refine l_pure S (p_fieldAddr rfl (fun w => fa65_1 w _ _)) rfl rfl rfl ?_; clear S a; intro a S
    refine l_pure S (p_indexAddr rfl rfl (fun w => ia_array Tryd.underlying63 sz5 (by omega) (by omega))) rfl rfl rfl ?_; clear S a; intro a S
    refine l_store S H rfl rfl rfl (.there .here) (by rw [escB_size]; omega) (fun w u hc hz => st1 sz5 rfl hc hz) rfl rfl ?_; clear S a H; intro w a H S
    have e0 : 256 + (eT r : Int).toNat * 1 = 256 + eT r := by omega
    rw [e0, escB_seth _ _ _ hetl] at H
    have htb : escB (fun k => if k = r then eT r else (tabF ((ints s).take i)) k) (fun k => if k = eT r then r else (tabH ((ints s).take i)) k) ⟨#[]⟩ = escB (tabF ((ints s).take (i + 1))) (tabH ((ints s).take (i + 1))) ⟨#[]⟩ := by rw [take_ints hi, hr, tabF_snoc, tabH_snoc]; simp only [Int.toNat_natCast]
    rw [htb] at H
    refine l_nil ?_
    refine e_in 1 ?_
    refine e_then ?_
    exact ⟨(i + 1), ⟨S.only ⟨rfl, rfl, rfl, trivial⟩, H, by omega⟩, (show s.size - (i + 1) < s.size - i from by omega)⟩
  · skip
    refine l_nextE S H rfl rfl (by omega) rfl rfl rfl ?_; clear S a; intro a S
    refine l_pure S (p_extract rfl rfl) rfl rfl rfl ?_; clear S a; intro a S
    refine l_nil ?_
    refine e_then ?_
    refine wp_seq ?_
    refine c_cond (b := false) S rfl (fun h => by cases h) (fun _ => ?_)
    refine wp_exit ?_
    refine e_then_exit ?_
    refine e_then_exit ?_
    refine e_in_exit ?_
    refine e_then ?_
    refine wp_seq ?_
    refine c_region ?_
    refine l_pure S (p_move rfl) rfl rfl rfl ?_; clear S a; intro a S
    refine l_pure S (p_fieldAddr rfl (fun w => fa65_2 w _ _)) rfl rfl rfl ?_; clear S a; intro a S
    refine l_store S H rfl rfl rfl (.there .here) (by rw [escB_size]; decide) (fun w u hc hz => st1 sz9 rfl hc hz) rfl rfl ?_; clear S a H; intro w a H S
    rw [show (0 + 512 : Nat) = 512 from rfl, escB_sets] at H
    refine l_nil ?_
    refine e_then ?_
    refine wp_seq ?_
    refine c_region ?_
    refine l_pure S (p_assign rfl) rfl rfl rfl ?_; clear S a; intro a S
    refine l_nil ?_
    refine e_then ?_
    refine wp_ret ?_
    have hts : (ints s).take i = ints s := List.take_of_length_le (by rw [ints_len]; omega)
    rw [hts] at H
    exact r_ret1 S rfl rfl ⟨ge, rfl, H.tail⟩
theorem e0_ (wb w0 : World) (B : Nat) (L0 : List (Nat × Obj)) (H : HH B wb w0 L0) : Calls Tryd.prog 30 #[] w0 fun e w' => ∃ g, e = .returned (.pointer (some ⟨g, 0, none⟩)) ∧ HH B wb w' ((g, .cells (escB (tabF (ints (escS 0))) (tabH (ints (escS 0))) (escS 0)) 65 (0, 0)) :: L0) := by
  refine c_enter (args := []) (k := 2) Tryd.func30 rfl rfl rfl (fun a S => ?_)
  refine wp_seq ?_
  refine c_region ?_
  refine l_pure S (p_assign rfl) rfl rfl rfl ?_; clear S a; intro a S
  refine l_nil ?_
  refine e_then ?_
  refine wp_seq ?_
  refine c_region ?_
  have hcon := newE_ wb _ B _ (escS 0) (by decide) (all_ok (by decide +kernel)) H
  refine l_call S rfl rfl Tryd.func57 rfl rfl (hcon) rfl rfl rfl ?_
  rintro e w ⟨q, rfl, hH⟩
  refine ⟨_, rfl, ?_⟩; clear S a; intro a S
  clear H hcon; have H := hH; clear hH
  refine l_pure S (p_assign rfl) rfl rfl rfl ?_; clear S a; intro a S
  refine l_nil ?_
  refine e_then ?_
  refine wp_ret ?_
  exact r_ret1 S rfl rfl ⟨q, rfl, H⟩
theorem e1_ (wb w0 : World) (B : Nat) (L0 : List (Nat × Obj)) (H : HH B wb w0 L0) : Calls Tryd.prog 31 #[] w0 fun e w' => ∃ g, e = .returned (.pointer (some ⟨g, 0, none⟩)) ∧ HH B wb w' ((g, .cells (escB (tabF (ints (escS 1))) (tabH (ints (escS 1))) (escS 1)) 65 (0, 0)) :: L0) := by
  refine c_enter (args := []) (k := 2) Tryd.func31 rfl rfl rfl (fun a S => ?_)
  refine wp_seq ?_
  refine c_region ?_
  refine l_pure S (p_assign rfl) rfl rfl rfl ?_; clear S a; intro a S
  refine l_nil ?_
  refine e_then ?_
  refine wp_seq ?_
  refine c_region ?_
  have hcon := newE_ wb _ B _ (escS 1) (by decide) (all_ok (by decide +kernel)) H
  refine l_call S rfl rfl Tryd.func57 rfl rfl (hcon) rfl rfl rfl ?_
  rintro e w ⟨q, rfl, hH⟩
  refine ⟨_, rfl, ?_⟩; clear S a; intro a S
  clear H hcon; have H := hH; clear hH
  refine l_pure S (p_assign rfl) rfl rfl rfl ?_; clear S a; intro a S
  refine l_nil ?_
  refine e_then ?_
  refine wp_ret ?_
  exact r_ret1 S rfl rfl ⟨q, rfl, H⟩
theorem e2_ (wb w0 : World) (B : Nat) (L0 : List (Nat × Obj)) (H : HH B wb w0 L0) : Calls Tryd.prog 32 #[] w0 fun e w' => ∃ g, e = .returned (.pointer (some ⟨g, 0, none⟩)) ∧ HH B wb w' ((g, .cells (escB (tabF (ints (escS 2))) (tabH (ints (escS 2))) (escS 2)) 65 (0, 0)) :: L0) := by
  refine c_enter (args := []) (k := 2) Tryd.func32 rfl rfl rfl (fun a S => ?_)
  refine wp_seq ?_
  refine c_region ?_
  refine l_pure S (p_assign rfl) rfl rfl rfl ?_; clear S a; intro a S
  refine l_nil ?_
  refine e_then ?_
  refine wp_seq ?_
  refine c_region ?_
  have hcon := newE_ wb _ B _ (escS 2) (by decide) (all_ok (by decide +kernel)) H
  refine l_call S rfl rfl Tryd.func57 rfl rfl (hcon) rfl rfl rfl ?_
  rintro e w ⟨q, rfl, hH⟩
  refine ⟨_, rfl, ?_⟩; clear S a; intro a S
  clear H hcon; have H := hH; clear hH
  refine l_pure S (p_assign rfl) rfl rfl rfl ?_; clear S a; intro a S
  refine l_nil ?_
  refine e_then ?_
  refine wp_ret ?_
  exact r_ret1 S rfl rfl ⟨q, rfl, H⟩
theorem e3_ (wb w0 : World) (B : Nat) (L0 : List (Nat × Obj)) (H : HH B wb w0 L0) : Calls Tryd.prog 33 #[] w0 fun e w' => ∃ g, e = .returned (.pointer (some ⟨g, 0, none⟩)) ∧ HH B wb w' ((g, .cells (escB (tabF (ints (escS 3))) (tabH (ints (escS 3))) (escS 3)) 65 (0, 0)) :: L0) := by
  refine c_enter (args := []) (k := 2) Tryd.func33 rfl rfl rfl (fun a S => ?_)
  refine wp_seq ?_
  refine c_region ?_
  refine l_pure S (p_assign rfl) rfl rfl rfl ?_; clear S a; intro a S
  refine l_nil ?_
  refine e_then ?_
  refine wp_seq ?_
  refine c_region ?_
  have hcon := e1_ wb _ B _ H
  refine l_call S rfl rfl Tryd.func31 rfl rfl (hcon) rfl rfl rfl ?_
  rintro e w ⟨q, rfl, hH⟩
  refine ⟨_, rfl, ?_⟩; clear S a; intro a S
  clear H hcon; have H := hH; clear hH
  refine l_pure S (p_assign rfl) rfl rfl rfl ?_; clear S a; intro a S
  refine l_nil ?_
  refine e_then ?_
  refine wp_ret ?_
  exact r_ret1 S rfl rfl ⟨q, rfl, H⟩
theorem e4_ (wb w0 : World) (B : Nat) (L0 : List (Nat × Obj)) (H : HH B wb w0 L0) : Calls Tryd.prog 34 #[] w0 fun e w' => ∃ g, e = .returned (.pointer (some ⟨g, 0, none⟩)) ∧ HH B wb w' ((g, .cells (escB (tabF (ints (escS 4))) (tabH (ints (escS 4))) (escS 4)) 65 (0, 0)) :: L0) := by
  refine c_enter (args := []) (k := 2) Tryd.func34 rfl rfl rfl (fun a S => ?_)
  refine wp_seq ?_
  refine c_region ?_
  refine l_pure S (p_assign rfl) rfl rfl rfl ?_; clear S a; intro a S
  refine l_nil ?_
  refine e_then ?_
  refine wp_seq ?_
  refine c_region ?_
  have hcon := newE_ wb _ B _ (escS 4) (by decide) (all_ok (by decide +kernel)) H
  refine l_call S rfl rfl Tryd.func57 rfl rfl (hcon) rfl rfl rfl ?_
  rintro e w ⟨q, rfl, hH⟩
  refine ⟨_, rfl, ?_⟩; clear S a; intro a S
  clear H hcon; have H := hH; clear hH
  refine l_pure S (p_assign rfl) rfl rfl rfl ?_; clear S a; intro a S
  refine l_nil ?_
  refine e_then ?_
  refine wp_ret ?_
  exact r_ret1 S rfl rfl ⟨q, rfl, H⟩
theorem escaper_ (wb w0 : World) (B : Nat) (L0 : List (Nat × Obj)) (k : Nat) (hk : k < 5) (H : HH B wb w0 L0) : Calls Tryd.prog 23 #[.int .i64 (k : Int)] w0 fun e w' => ∃ g, e = .returned (.pointer (some ⟨g, 0, none⟩)) ∧ HH B wb w' ((g, .cells (escB (tabF (ints (escS k))) (tabH (ints (escS k))) (escS k)) 65 (0, 0)) :: L0) := by
  refine c_enter (args := [.int .i64 (k : Int)]) (k := 16) Tryd.func23 rfl rfl rfl (fun a S => ?_)
  refine wp_seq ?_
  refine c_region ?_
  refine l_pure S (p_assign rfl) rfl rfl rfl ?_; clear S a; intro a S
  refine l_nil ?_
  refine e_then ?_
  refine wp_seq ?_
  refine wp_seq ?_
  refine c_region ?_
  refine l_pure S (p_move rfl) rfl rfl rfl ?_; clear S a; intro a S
  refine l_nil ?_
  refine e_then ?_
  refine wp_block ?_
  refine wp_seq ?_
  refine c_region ?_
  refine l_pure S (p_eql rfl rfl) rfl rfl rfl ?_; clear S a; intro a S
  refine l_pure S (p_assign rfl) rfl rfl rfl ?_; clear S a; intro a S
  refine l_nil ?_
  refine e_then ?_
  refine c_cond S rfl (fun bc2 => ?_) (fun bc2 => ?_)
  · skip
    have c2 := bc2
    have c2 := eq_of_beq c2
    refine wp_seq ?_
    refine c_region ?_
    obtain rfl : k = 0 := by omega
    have hcon := e0_ wb _ B _ H
    refine l_call S rfl rfl Tryd.func30 rfl rfl (hcon) rfl rfl rfl ?_
    rintro e w ⟨q, rfl, hH⟩
    refine ⟨_, rfl, ?_⟩; clear S a; intro a S
    clear H hcon; have H := hH; clear hH
    refine l_pure S (p_assign rfl) rfl rfl rfl ?_; clear S a; intro a S
    refine l_nil ?_
    refine e_then ?_
    refine wp_ret ?_
    refine e_in_ret ?_
    refine e_then_ret ?_
    exact r_ret1 S rfl rfl ⟨q, rfl, H⟩
  · skip
    have c2 := bc2
    have c2 := ne_of_beq_false c2
    refine wp_seq ?_
    refine c_region ?_
    refine l_pure S (p_eql rfl rfl) rfl rfl rfl ?_; clear S a; intro a S
    refine l_pure S (p_assign rfl) rfl rfl rfl ?_; clear S a; intro a S
    refine l_nil ?_
    refine e_then ?_
    refine c_cond S rfl (fun bc4 => ?_) (fun bc4 => ?_)
    · skip
      have c4 := bc4
      have c4 := eq_of_beq c4
      refine wp_seq ?_
      refine c_region ?_
      obtain rfl : k = 1 := by omega
      have hcon := e1_ wb _ B _ H
      refine l_call S rfl rfl Tryd.func31 rfl rfl (hcon) rfl rfl rfl ?_
      rintro e w ⟨q, rfl, hH⟩
      refine ⟨_, rfl, ?_⟩; clear S a; intro a S
      clear H hcon; have H := hH; clear hH
      refine l_pure S (p_assign rfl) rfl rfl rfl ?_; clear S a; intro a S
      refine l_nil ?_
      refine e_then ?_
      refine wp_ret ?_
      refine e_in_ret ?_
      refine e_then_ret ?_
      exact r_ret1 S rfl rfl ⟨q, rfl, H⟩
    · skip
      have c4 := bc4
      have c4 := ne_of_beq_false c4
      refine wp_seq ?_
      refine c_region ?_
      refine l_pure S (p_eql rfl rfl) rfl rfl rfl ?_; clear S a; intro a S
      refine l_pure S (p_assign rfl) rfl rfl rfl ?_; clear S a; intro a S
      refine l_nil ?_
      refine e_then ?_
      refine c_cond S rfl (fun bc6 => ?_) (fun bc6 => ?_)
      · skip
        have c6 := bc6
        have c6 := eq_of_beq c6
        refine wp_seq ?_
        refine c_region ?_
        obtain rfl : k = 2 := by omega
        have hcon := e2_ wb _ B _ H
        refine l_call S rfl rfl Tryd.func32 rfl rfl (hcon) rfl rfl rfl ?_
        rintro e w ⟨q, rfl, hH⟩
        refine ⟨_, rfl, ?_⟩; clear S a; intro a S
        clear H hcon; have H := hH; clear hH
        refine l_pure S (p_assign rfl) rfl rfl rfl ?_; clear S a; intro a S
        refine l_nil ?_
        refine e_then ?_
        refine wp_ret ?_
        refine e_in_ret ?_
        refine e_then_ret ?_
        exact r_ret1 S rfl rfl ⟨q, rfl, H⟩
      · skip
        have c6 := bc6
        have c6 := ne_of_beq_false c6
        refine wp_seq ?_
        refine c_region ?_
        refine l_pure S (p_eql rfl rfl) rfl rfl rfl ?_; clear S a; intro a S
        refine l_pure S (p_assign rfl) rfl rfl rfl ?_; clear S a; intro a S
        refine l_nil ?_
        refine e_then ?_
        refine c_cond S rfl (fun bc8 => ?_) (fun bc8 => ?_)
        · skip
          have c8 := bc8
          have c8 := eq_of_beq c8
          refine wp_seq ?_
          refine c_region ?_
          obtain rfl : k = 3 := by omega
          have hcon := e3_ wb _ B _ H
          refine l_call S rfl rfl Tryd.func33 rfl rfl (hcon) rfl rfl rfl ?_
          rintro e w ⟨q, rfl, hH⟩
          refine ⟨_, rfl, ?_⟩; clear S a; intro a S
          clear H hcon; have H := hH; clear hH
          refine l_pure S (p_assign rfl) rfl rfl rfl ?_; clear S a; intro a S
          refine l_nil ?_
          refine e_then ?_
          refine wp_ret ?_
          refine e_in_ret ?_
          refine e_then_ret ?_
          exact r_ret1 S rfl rfl ⟨q, rfl, H⟩
        · skip
          have c8 := bc8
          have c8 := ne_of_beq_false c8
          refine wp_skip ?_
          refine e_in 0 ?_
          refine e_then ?_
          refine wp_seq ?_
          refine c_region ?_
          obtain rfl : k = 4 := by omega
          have hcon := e4_ wb _ B _ H
          refine l_call S rfl rfl Tryd.func34 rfl rfl (hcon) rfl rfl rfl ?_
          rintro e w ⟨q, rfl, hH⟩
          refine ⟨_, rfl, ?_⟩; clear S a; intro a S
          clear H hcon; have H := hH; clear hH
          refine l_pure S (p_assign rfl) rfl rfl rfl ?_; clear S a; intro a S
          refine l_nil ?_
          refine e_then ?_
          refine wp_ret ?_
          exact r_ret1 S rfl rfl ⟨q, rfl, H⟩
end gb
end Go.Proofs.YtbahngfpadjbhaaDoor.dec
