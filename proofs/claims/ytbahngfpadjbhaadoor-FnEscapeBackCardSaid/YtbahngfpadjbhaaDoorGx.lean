/- FnEscapeBack: the law. -/
import Derived.Test.YtbahngfpadjbhaaDoorEp
import Derived.Test.YtbahngfpadjbhaaDoorGd
import Derived.Test.YtbahngfpadjbhaaDoorGc
import Derived.Test.YtbahngfpadjbhaaDoorUf
namespace Go.Proofs.YtbahngfpadjbhaaDoor.dec
open Go.RowKit Go.Proofs.HHW Go.Proofs.YtbahngfpadjbhaaDoorW.PrintWords
set_option linter.unusedVariables false
set_option linter.unusedSimpArgs false
namespace gx
theorem sz5 : szB Tryd.prog 5 = some 1 := by kernel_rfl
theorem zv5 : zvB Tryd.prog 5 = some (.int .u8 0) := by kernel_rfl

theorem odd_ (wb w0 : World) (B : Nat) (L0 : List (Nat × Obj)) (x : Nat) (hx : x < 256) (H : HH B wb w0 L0) : Calls Tryd.prog 15 #[.int .u8 (x : Int)] w0 fun e w' => e = .returned (.bool (odd x)) ∧ HH B wb w' L0 := by
 refine c_enter (args := [.int .u8 (x : Int)]) (k := 8) Tryd.func15 rfl rfl rfl (fun a S => ?_)
 refine wp_seq ?_
 refine c_region ?_
 refine l_pure S (p_assign rfl) rfl rfl rfl ?_; clear S a; intro a S
 refine l_nil ?_
 refine e_then ?_
 refine wp_seq ?_
 refine c_region ?_
 refine l_pure S (p_move rfl) rfl rfl rfl ?_; clear S a; intro a S
 refine l_pure S (p_lss rfl rfl) rfl rfl rfl ?_; clear S a; intro a S
 refine l_pure S (p_move rfl) rfl rfl rfl ?_; clear S a; intro a S
 refine l_split (S.of 5 rfl) (fun bc3 => ?_) (fun bc3 => ?_)
 ·
  have c3 := bc3
  have c3 := of_decide_eq_true c3
  refine l_off S rfl rfl rfl rfl bc3 rfl rfl ?_; clear S a; intro a S
  refine l_off S rfl rfl rfl rfl bc3 rfl rfl ?_; clear S a; intro a S
  refine l_pure S (p_pick_t rfl bc3 rfl) rfl rfl rfl ?_; clear S a; intro a S
  refine l_pure S (p_assign rfl) rfl rfl rfl ?_; clear S a; intro a S
  refine l_nil ?_
  refine e_then ?_
  refine wp_ret ?_
  exact r_ret1 S rfl rfl ⟨by unfold odd; rw [decide_eq_true (by omega)]; rfl, H⟩
 ·
  have c3 := bc3
  have c3 := of_decide_eq_false c3
  refine l_on S rfl rfl rfl rfl bc3 ?_
  refine l_pure S (p_move rfl) rfl rfl rfl ?_; clear S a; intro a S
  refine l_on S rfl rfl rfl rfl bc3 ?_
  refine l_pure S (p_eql rfl rfl) rfl rfl rfl ?_; clear S a; intro a S
  refine l_pure S (p_pick_f rfl bc3 rfl) rfl rfl rfl ?_; clear S a; intro a S
  refine l_pure S (p_assign rfl) rfl rfl rfl ?_; clear S a; intro a S
  refine l_nil ?_
  refine e_then ?_
  refine wp_ret ?_
  have e1 : odd x = ((x : Int) == 127) := by
   unfold odd
   rw [decide_eq_false (by omega), Bool.false_or]
   by_cases e : x = 127
   ·
    subst e; rfl
   ·
    have : ¬ ((x : Int) = 127) := by omega
    rw [show (x == 127) = false from beq_eq_false_iff_ne.2 e, show ((x : Int) == 127) = false from beq_eq_false_iff_ne.2 this]
  exact r_ret1 S rfl rfl ⟨by rw [e1], H⟩
theorem keyRight_ (wb w0 : World) (B : Nat) (L0 : List (Nat × Obj)) (s : ByteArray) (hs : s.size ≤ 100000) (H : HH B wb w0 L0) : Calls Tryd.prog 8 #[.string s] w0 fun e w' => ∃ b, e = .returned (.bool b) ∧ (b = true → keyOk s) ∧ HH B wb w' L0 := by
 refine c_enter (args := [.string s]) (k := 27) Tryd.func8 rfl rfl rfl (fun a S => ?_)
 refine wp_seq ?_
 refine c_region ?_
 refine l_pure S (p_assign rfl) rfl rfl rfl ?_; clear S a; intro a S
 refine l_nil ?_
 refine e_then ?_
 refine wp_seq ?_
 refine wp_seq ?_
 refine c_region ?_
 refine l_pure S (p_assign rfl) rfl rfl rfl ?_; clear S a; intro a S
 refine l_nil ?_
 refine e_then ?_
 refine wp_block ?_
 refine c_loop (σ := Nat) (fun s_ a w => match s_ with | i => SL a 28 [] [(0, .string s), (3, .int .i64 (i : Int))] ∧ HH (B) wb w L0 ∧ (i ≤ s.size ∧ ∀ x ∈ (ints s).take i, odd x.toNat = false)) (fun s_ => match s_ with | i => s.size - i) 0 ⟨S.only ⟨rfl, rfl, trivial⟩, H, ⟨Nat.zero_le _, by simp⟩⟩ ?_
 clear S a H; rintro i a w ⟨S, H, hinv⟩
 obtain ⟨hi0, hodd⟩ := hinv
 refine wp_seq ?_
 refine wp_seq ?_
 refine c_region ?_
 refine l_pure S (p_move rfl) rfl rfl rfl ?_; clear S a; intro a S
 refine l_pure S (p_move rfl) rfl rfl rfl ?_; clear S a; intro a S
 refine l_pure S (p_lens Tryd.underlying9 rfl) rfl rfl rfl ?_; clear S a; intro a S
 refine l_pure S (p_lss rfl rfl) rfl rfl rfl ?_; clear S a; intro a S
 refine l_nil ?_
 refine e_then ?_
 refine c_cond S rfl (fun bc3 => ?_) (fun bc3 => ?_)
 ·
  have c3 := bc3
  have c3 := of_decide_eq_true c3
  refine wp_skip ?_
  refine e_then ?_
  refine wp_seq ?_
  refine wp_block ?_
  refine wp_seq ?_
  refine c_region ?_
  refine l_pure S (p_move rfl) rfl rfl rfl ?_; clear S a; intro a S
  refine l_pure S (p_move rfl) rfl rfl rfl ?_; clear S a; intro a S
  refine l_pure S (p_index rfl rfl (fun w => ix_string Tryd.underlying9 (by omega) (by omega))) rfl rfl rfl ?_; clear S a; intro a S
  have hbr := HHW.bt_range s (i : Int)
  obtain ⟨b, hb, hbl⟩ : ∃ b : Nat, HHW.bt s (i : Int) = (b : Int) ∧ b < 256 := ⟨(HHW.bt s (i : Int)).toNat, by omega, by omega⟩
  rw [hb] at S
  have hcon := odd_ wb _ B _ b hbl H
  refine l_call S rfl rfl Tryd.func15 rfl rfl (hcon) rfl rfl rfl ?_
  rintro e w ⟨rfl, hH⟩
  refine ⟨_, rfl, ?_⟩; clear S a; intro a S
  clear H hcon; have H := hH; clear hH
  refine l_nil ?_
  refine e_then ?_
  refine c_cond S rfl (fun bc5 => ?_) (fun bc5 => ?_)
  ·
   have c5 := bc5
   refine wp_seq ?_
   refine c_region ?_
   refine l_pure S (p_assign rfl) rfl rfl rfl ?_; clear S a; intro a S
   refine l_nil ?_
   refine e_then ?_
   refine wp_ret ?_
   refine e_in_ret ?_
   refine e_then_ret ?_
   refine e_then_ret ?_
   refine e_in_ret ?_
   refine e_then_ret ?_
   exact r_ret1 S rfl rfl ⟨_, rfl, (fun h => by cases h), H⟩
  ·
   have c5 := bc5
   refine wp_skip ?_
   refine e_in 1 ?_
   refine e_then ?_
   refine c_region ?_
   refine l_pure S (p_move rfl) rfl rfl rfl ?_; clear S a; intro a S
   refine l_pure S (p_add rfl rfl (nat_add (x := i) (y := 1) (by omega))) rfl rfl rfl ?_; clear S a; intro a S
   refine l_pure S (p_assign rfl) rfl rfl rfl ?_; clear S a; intro a S
   refine l_nil ?_
   refine e_then ?_
   exact ⟨(i + 1), ⟨S.only ⟨rfl, rfl, trivial⟩, H, ⟨by omega, by rw [take_ints (by omega)]; intro x hx; rcases List.mem_append.1 hx with h | h; exact hodd x h; (rw [List.mem_singleton] at h; subst h; rw [hb, Int.toNat_natCast]; assumption)⟩⟩, (show s.size - (i + 1) < s.size - i from by omega)⟩
 ·
  have c3 := bc3
  have c3 := of_decide_eq_false c3
  refine wp_exit ?_
  refine e_then_exit ?_
  refine e_then_exit ?_
  refine e_in_exit ?_
  refine e_then ?_
  refine wp_seq ?_
  refine c_region ?_
  refine l_pure S (p_move rfl) rfl rfl rfl ?_; clear S a; intro a S
  refine l_pure S (p_sneq rfl rfl) rfl rfl rfl ?_; clear S a; intro a S
  refine l_pure S (p_move rfl) rfl rfl rfl ?_; clear S a; intro a S
  refine l_split (S.of 16 rfl) (fun bc8 => ?_) (fun bc8 => ?_)
  ·
   have hne : s.size ≠ 0 := fun e => by
    have e2 : s.toList = [] := by rw [ByteArray.toList_eq]; exact List.length_eq_zero_iff.1 (by rw [Array.length_toList]; exact e)
    rw [e2, ByteArray.toList_eq] at bc8
    exact absurd bc8 (by decide)
   refine l_on S rfl rfl rfl rfl bc8 ?_
   refine l_pure S (p_move rfl) rfl rfl rfl ?_; clear S a; intro a S
   refine l_on S rfl rfl rfl rfl bc8 ?_
   have hcon := u8.utf8_ wb _ B _ s H (by omega)
   refine l_call S rfl rfl Tryd.func7 rfl rfl (hcon) rfl rfl rfl ?_
   rintro e w ⟨rfl, hH⟩
   refine ⟨_, rfl, ?_⟩; clear S a; intro a S
   clear H hcon; have H := hH; clear hH
   refine l_pure S (p_pick_t rfl bc8 rfl) rfl rfl rfl ?_; clear S a; intro a S
   refine l_pure S (p_move rfl) rfl rfl rfl ?_; clear S a; intro a S
   refine l_split (S.of 20 rfl) (fun bc10 => ?_) (fun bc10 => ?_)
   ·
    refine l_on S rfl rfl rfl rfl bc10 ?_
    refine l_pure S (p_move rfl) rfl rfl rfl ?_; clear S a; intro a S
    refine l_on S rfl rfl rfl rfl bc10 ?_
    refine l_pure S (p_move rfl) rfl rfl rfl ?_; clear S a; intro a S
    refine l_on S rfl rfl rfl rfl bc10 ?_
    refine l_pure S (p_lens Tryd.underlying9 rfl) rfl rfl rfl ?_; clear S a; intro a S
    refine l_on S rfl rfl rfl rfl bc10 ?_
    refine l_pure S (p_sub rfl rfl (nat_sub (x := s.size) (y := 1) (by omega) (by omega))) rfl rfl rfl ?_; clear S a; intro a S
    refine l_on S rfl rfl rfl rfl bc10 ?_
    refine l_pure S (p_index rfl rfl (fun w => ix_string Tryd.underlying9 (by omega) (by omega))) rfl rfl rfl ?_; clear S a; intro a S
    refine l_on S rfl rfl rfl rfl bc10 ?_
    refine l_pure S (p_neq rfl rfl) rfl rfl rfl ?_; clear S a; intro a S
    refine l_pure S (p_pick_t rfl bc10 rfl) rfl rfl rfl ?_; clear S a; intro a S
    refine l_pure S (p_assign rfl) rfl rfl rfl ?_; clear S a; intro a S
    refine l_nil ?_
    refine e_then ?_
    refine wp_ret ?_
    have hts : (ints s).take i = ints s := List.take_of_length_le (by rw [ints_len]; omega)
    rw [hts] at hodd
    exact r_ret1 S rfl rfl ⟨_, rfl, fun h => ⟨hne, hodd, by rw [last_bt hne]; intro e; injection e with e; have h2 := bne_iff_ne.1 h; exact h2 e⟩, H⟩
   ·
    refine l_off S rfl rfl rfl rfl bc10 rfl rfl ?_; clear S a; intro a S
    refine l_off S rfl rfl rfl rfl bc10 rfl rfl ?_; clear S a; intro a S
    refine l_off S rfl rfl rfl rfl bc10 rfl rfl ?_; clear S a; intro a S
    refine l_off S rfl rfl rfl rfl bc10 rfl rfl ?_; clear S a; intro a S
    refine l_off S rfl rfl rfl rfl bc10 rfl rfl ?_; clear S a; intro a S
    refine l_off S rfl rfl rfl rfl bc10 rfl rfl ?_; clear S a; intro a S
    refine l_pure S (p_pick_f rfl bc10 rfl) rfl rfl rfl ?_; clear S a; intro a S
    refine l_pure S (p_assign rfl) rfl rfl rfl ?_; clear S a; intro a S
    refine l_nil ?_
    refine e_then ?_
    refine wp_ret ?_
    exact r_ret1 S rfl rfl ⟨_, rfl, (fun h => by cases h), H⟩
  ·
   refine l_off S rfl rfl rfl rfl bc8 rfl rfl ?_; clear S a; intro a S
   refine l_off S rfl rfl rfl rfl bc8 rfl rfl ?_; clear S a; intro a S
   refine l_pure S (p_pick_f rfl bc8 rfl) rfl rfl rfl ?_; clear S a; intro a S
   refine l_pure S (p_move rfl) rfl rfl rfl ?_; clear S a; intro a S
   refine l_off S rfl rfl rfl rfl rfl rfl rfl ?_; clear S a; intro a S
   refine l_off S rfl rfl rfl rfl rfl rfl rfl ?_; clear S a; intro a S
   refine l_off S rfl rfl rfl rfl rfl rfl rfl ?_; clear S a; intro a S
   refine l_off S rfl rfl rfl rfl rfl rfl rfl ?_; clear S a; intro a S
   refine l_off S rfl rfl rfl rfl rfl rfl rfl ?_; clear S a; intro a S
   refine l_off S rfl rfl rfl rfl rfl rfl rfl ?_; clear S a; intro a S
   refine l_pure S (p_pick_f rfl rfl rfl) rfl rfl rfl ?_; clear S a; intro a S
   refine l_pure S (p_assign rfl) rfl rfl rfl ?_; clear S a; intro a S
   refine l_nil ?_
   refine e_then ?_
   refine wp_ret ?_
   exact r_ret1 S rfl rfl ⟨_, rfl, (fun h => by cases h), H⟩
set_option maxHeartbeats 2000000 in
theorem law_ (w0 : World) (k : Int) (s : ByteArray) (c : Int) (t : ByteArray) (hT : Lib.Utf8Tabs 0 1 w0) (ae : Addr) (hE : w0.cell? ⟨2, 0, none⟩ = some (.iface 89 (.pointer (some ae)))) (hlt : 2 < w0.heap.size) : Calls Tryd.prog 4 #[.int .i64 k, .string s, .int .u8 c, .string t] w0 fun e w' => e = .returned (.bool true) ∧ Below w0.heap.size w0 w' := by
 have H := HH.start w0
 refine c_enter (args := [.int .i64 k, .string s, .int .u8 c, .string t]) (k := 109) Tryd.func4 rfl rfl rfl (fun a S => ?_)
 refine wp_seq ?_
 refine c_region ?_
 refine l_pure S (p_assign rfl) rfl rfl rfl ?_; clear S a; intro a S
 refine l_nil ?_
 refine e_then ?_
 refine wp_seq ?_
 refine wp_seq ?_
 refine c_region ?_
 refine l_pure S (p_move rfl) rfl rfl rfl ?_; clear S a; intro a S
 refine l_pure S (p_lens Tryd.underlying9 rfl) rfl rfl rfl ?_; clear S a; intro a S
 refine l_pure S (p_gtr rfl rfl) rfl rfl rfl ?_; clear S a; intro a S
 refine l_pure S (p_move rfl) rfl rfl rfl ?_; clear S a; intro a S
 refine l_split (S.of 18 rfl) (fun bc3 => ?_) (fun bc3 => ?_)
 ·
  have c3 := bc3
  have c3 := of_decide_eq_true c3
  refine l_off S rfl rfl rfl rfl bc3 rfl rfl ?_; clear S a; intro a S
  refine l_off S rfl rfl rfl rfl bc3 rfl rfl ?_; clear S a; intro a S
  refine l_off S rfl rfl rfl rfl bc3 rfl rfl ?_; clear S a; intro a S
  refine l_pure S (p_pick_t rfl bc3 rfl) rfl rfl rfl ?_; clear S a; intro a S
  refine l_nil ?_
  refine e_then ?_
  refine c_cond (b := true) S rfl (fun _ => ?_) (fun h => by cases h)
  refine wp_seq ?_
  refine c_region ?_
  refine l_pure S (p_assign rfl) rfl rfl rfl ?_; clear S a; intro a S
  refine l_nil ?_
  refine e_then ?_
  refine wp_ret ?_
  refine e_then_ret ?_
  exact r_ret1 S rfl rfl ⟨rfl, H.below⟩
 ·
  have c3 := bc3
  have c3 := of_decide_eq_false c3
  refine l_on S rfl rfl rfl rfl bc3 ?_
  refine l_pure S (p_move rfl) rfl rfl rfl ?_; clear S a; intro a S
  refine l_on S rfl rfl rfl rfl bc3 ?_
  refine l_pure S (p_lens Tryd.underlying9 rfl) rfl rfl rfl ?_; clear S a; intro a S
  refine l_on S rfl rfl rfl rfl bc3 ?_
  refine l_pure S (p_gtr rfl rfl) rfl rfl rfl ?_; clear S a; intro a S
  refine l_pure S (p_pick_f rfl bc3 rfl) rfl rfl rfl ?_; clear S a; intro a S
  refine l_nil ?_
  refine e_then ?_
  refine c_cond S rfl (fun bc8 => ?_) (fun bc8 => ?_)
  ·
   have c8 := bc8
   have c8 := of_decide_eq_true c8
   refine wp_seq ?_
   refine c_region ?_
   refine l_pure S (p_assign rfl) rfl rfl rfl ?_; clear S a; intro a S
   refine l_nil ?_
   refine e_then ?_
   refine wp_ret ?_
   refine e_then_ret ?_
   exact r_ret1 S rfl rfl ⟨rfl, H.below⟩
  ·
   have c8 := bc8
   have c8 := of_decide_eq_false c8
   refine wp_skip ?_
   refine e_then ?_
   refine c_cut (fun a w => SL a 113 [] [(0, .int .i64 k), (1, .string s), (2, .int .u8 c), (3, .string t)] ∧ HH (w0.heap.size) w0 w [] ∧ (0 ≤ k ∧ k ≤ 4) ∧ s.size ≤ 1000 ∧ t.size ≤ 1000 ∧ up.V s 0 = true ∧ (k < 4 → keyOk s)) ?_ ?_
   ·
    clear S a H; rintro a w ⟨S, H, hinv⟩
    obtain ⟨hk, hs1, ht1, hV, hKR⟩ := hinv
    refine c_cut (fun a w => SL a 113 [] [(0, .int .i64 k), (1, .string s), (2, .int .u8 c), (3, .string t)] ∧ HH (w0.heap.size) w0 w [] ∧ 0 ≤ c ∧ endOk k.toNat c.toNat) ?_ ?_
    ·
     clear S a H; rintro a w ⟨S, H, hinv⟩
     obtain ⟨hc0, hinv⟩ := hinv
     obtain ⟨kn, rfl⟩ := Int.eq_ofNat_of_zero_le hk.1
     obtain ⟨cn, rfl⟩ := Int.eq_ofNat_of_zero_le hc0
     simp only [Int.toNat_natCast] at hinv
     have hkn : kn < 5 := by omega
     refine wp_seq ?_
     refine c_region ?_
     refine l_pure S (p_move rfl) rfl rfl rfl ?_; clear S a; intro a S
     refine l_pure S (p_move rfl) rfl rfl rfl ?_; clear S a; intro a S
     have hcon := gc.escape_ w0 _ w0.heap.size _ kn hkn s (by omega) H
     refine l_call S rfl rfl Tryd.func9 rfl rfl (hcon) rfl rfl rfl ?_
     rintro e w ⟨rfl, hH⟩
     refine ⟨_, rfl, ?_⟩; clear S a; intro a S
     clear H hcon; have H := hH; clear hH
     have hby : ∀ x ∈ ints s, 0 ≤ x ∧ x < 256 := by have := ints_by s 0; rwa [List.drop_zero] at this
     have hlen := escd_len (tab_sum kn hkn) (ints s) hby
     rw [ints_len] at hlen
     have hcl := sumC_le (ints (escS kn)) (ints s)
     rw [ints_len, ints_len] at hcl
     have hkz : (escS kn).size ≤ 10 := by
      rcases (show kn = 0 ∨ kn = 1 ∨ kn = 2 ∨ kn = 3 ∨ kn = 4 by omega) with rfl | rfl | rfl | rfl | rfl <;> decide
     have hcl2 : (escS kn).size * s.size ≤ 10 * 1000 := Nat.mul_le_mul hkz hs1
     have hEz : (strOfNums (escd (tabF (ints (escS kn))) (ints s))).size = (escd (tabF (ints (escS kn))) (ints s)).length := nums_size _
     refine l_pure S (p_assign rfl) rfl rfl rfl ?_; clear S a; intro a S
     refine l_nil ?_
     refine e_then ?_
     refine wp_seq ?_
     refine c_region ?_
     refine l_pure S (p_move rfl) rfl rfl rfl ?_; clear S a; intro a S
     refine l_pure S (p_move rfl) rfl rfl rfl ?_; clear S a; intro a S
     refine l_pure S (p_move rfl) rfl rfl rfl ?_; clear S a; intro a S
     refine l_lit [(.tmp 85)] S H rfl rfl Tryd.underlying32 sz5 zv5 rfl rfl (by simp [Value.cells]) rfl rfl rfl ?_; clear S a H; intro g10 w a H S
     refine l_read S H (r_str (l := [(cn : Int)]) rfl Tryd.underlying32 Tryd.underlying5 Tryd.underlying9 (fun w H => RB.C (RB.of H List.mem_cons_self (fun i v hi => by rcases i with _ | i <;> simp_all)) (show 1 ≤ 9223372036854775807 by decide))) rfl rfl rfl ?_; clear S a; intro a S
     refine l_pure S (p_sadd rfl rfl (by simp only [ByteArray.size_append, nums_size, List.length_cons, List.length_nil]; omega)) rfl rfl rfl ?_; clear S a; intro a S
     refine l_pure S (p_move rfl) rfl rfl rfl ?_; clear S a; intro a S
     refine l_pure S (p_sadd rfl rfl (by simp only [ByteArray.size_append, nums_size, List.length_cons, List.length_nil]; omega)) rfl rfl rfl ?_; clear S a; intro a S
     have hX : ints (((strOfNums (escd (tabF (ints (escS kn))) (ints s))) ++ (strOfNums [(cn : Int)])) ++ t) = (escd (tabF (ints (escS kn))) (ints s)) ++ (cn : Int) :: ints t := by
      rw [ints_app, ints_app, ints_nums (escd_by (fun b => (tab_lt kn hkn b).1) hby), ints_nums (l := [(cn : Int)]) (by intro x hx; rw [List.mem_singleton] at hx; subst hx; unfold endOk at hinv; omega)]
      simp
     have hXz : ((((strOfNums (escd (tabF (ints (escS kn))) (ints s))) ++ (strOfNums [(cn : Int)])) ++ t)).size ≤ 900000 := by rw [← ints_len, hX, List.length_append, List.length_cons, ints_len]; omega
     have htk := take_back (t := t) hkn hinv (fun h => hKR (by omega))
     have hcon := gd.impl_take _ kn hkn _ hXz (tabs_of hT H rfl) ae (cell_later hE H.below) (Nat.lt_of_lt_of_le hlt H.below.size)
     have e1 : tx (sIn (sK kn)) (tabH (ints (escS kn))) false (ints (((strOfNums (escd (tabF (ints (escS kn))) (ints s))) ++ (strOfNums [(cn : Int)])) ++ t)) 0 = ints s := by unfold tx; rw [if_neg (by decide), List.drop_zero, hX, htk]
     rw [e1, List.drop_zero, hX, htk, nums_back, hV] at hcon
     refine l_call S rfl rfl Tryd.func10 rfl rfl (hcon) rfl rfl rfl ?_
     rintro e w ⟨rfl, hb⟩
     refine ⟨_, rfl, ?_⟩; clear S a; intro a S
     replace H := H.later hb; clear hcon hb
     refine l_pure S (p_move rfl) rfl rfl rfl ?_; clear S a; intro a S
     refine l_pure S (p_extract rfl rfl) rfl rfl rfl ?_; clear S a; intro a S
     refine l_pure S (p_extract rfl rfl) rfl rfl rfl ?_; clear S a; intro a S
     refine l_pure S (p_extract rfl rfl) rfl rfl rfl ?_; clear S a; intro a S
     refine l_pure S (p_extract rfl rfl) rfl rfl rfl ?_; clear S a; intro a S
     refine l_pure S (p_extract rfl rfl) rfl rfl rfl ?_; clear S a; intro a S
     refine l_pure S (p_assign rfl) rfl rfl rfl ?_; clear S a; intro a S
     refine l_pure S (p_assign rfl) rfl rfl rfl ?_; clear S a; intro a S
     refine l_pure S (p_assign rfl) rfl rfl rfl ?_; clear S a; intro a S
     refine l_pure S (p_assign rfl) rfl rfl rfl ?_; clear S a; intro a S
     refine l_pure S (p_assign rfl) rfl rfl rfl ?_; clear S a; intro a S
     refine l_nil ?_
     refine e_then ?_
     refine wp_seq ?_
     refine c_region ?_
     refine l_pure S (p_move rfl) rfl rfl rfl ?_; clear S a; intro a S
     refine l_pure S (p_move rfl) rfl rfl rfl ?_; clear S a; intro a S
     refine l_on S rfl rfl rfl rfl rfl ?_
     refine l_pure S (p_move rfl) rfl rfl rfl ?_; clear S a; intro a S
     refine l_on S rfl rfl rfl rfl rfl ?_
     refine l_pure S (p_not rfl) rfl rfl rfl ?_; clear S a; intro a S
     refine l_pure S (p_pick_t rfl rfl rfl) rfl rfl rfl ?_; clear S a; intro a S
     refine l_pure S (p_move rfl) rfl rfl rfl ?_; clear S a; intro a S
     refine l_on S rfl rfl rfl rfl rfl ?_
     refine l_pure S (p_move rfl) rfl rfl rfl ?_; clear S a; intro a S
     refine l_on S rfl rfl rfl rfl rfl ?_
     refine l_pure S (p_move rfl) rfl rfl rfl ?_; clear S a; intro a S
     refine l_on S rfl rfl rfl rfl rfl ?_
     refine l_pure S (p_seql rfl rfl) rfl rfl rfl ?_; clear S a; intro a S
     refine l_pure S (p_pick_t rfl rfl rfl) rfl rfl rfl ?_; clear S a; intro a S
     refine l_pure S (p_move rfl) rfl rfl rfl ?_; clear S a; intro a S
     refine l_on S rfl rfl rfl rfl (beq_self_eq_true _) ?_
     refine l_pure S (p_move rfl) rfl rfl rfl ?_; clear S a; intro a S
     refine l_on S rfl rfl rfl rfl (beq_self_eq_true _) ?_
     refine l_pure S (p_move rfl) rfl rfl rfl ?_; clear S a; intro a S
     refine l_on S rfl rfl rfl rfl (beq_self_eq_true _) ?_
     refine l_pure S (p_lens Tryd.underlying9 rfl) rfl rfl rfl ?_; clear S a; intro a S
     refine l_on S rfl rfl rfl rfl (beq_self_eq_true _) ?_
     refine l_pure S (p_eql rfl rfl) rfl rfl rfl ?_; clear S a; intro a S
     refine l_pure S (p_pick_t rfl (beq_self_eq_true _) rfl) rfl rfl rfl ?_; clear S a; intro a S
     refine l_pure S (p_assign rfl) rfl rfl rfl ?_; clear S a; intro a S
     refine l_nil ?_
     refine e_then ?_
     refine wp_ret ?_
     exact r_ret1 S rfl rfl ⟨by rw [hEz]; simp, H.below⟩
    ·
     refine wp_seq ?_
     refine c_region ?_
     refine l_pure S (p_move rfl) rfl rfl rfl ?_; clear S a; intro a S
     refine l_pure S (p_eql rfl rfl) rfl rfl rfl ?_; clear S a; intro a S
     refine l_pure S (p_move rfl) rfl rfl rfl ?_; clear S a; intro a S
     refine l_split (S.of 55 rfl) (fun bc17 => ?_) (fun bc17 => ?_)
     ·
      have c17 := bc17
      have c17 := eq_of_beq c17
      refine l_on S rfl rfl rfl rfl bc17 ?_
      refine l_pure S (p_move rfl) rfl rfl rfl ?_; clear S a; intro a S
      refine l_on S rfl rfl rfl rfl bc17 ?_
      refine l_pure S (p_neq rfl rfl) rfl rfl rfl ?_; clear S a; intro a S
      refine l_pure S (p_pick_t rfl bc17 rfl) rfl rfl rfl ?_; clear S a; intro a S
      refine l_pure S (p_move rfl) rfl rfl rfl ?_; clear S a; intro a S
      refine l_split (S.of 59 rfl) (fun bc19 => ?_) (fun bc19 => ?_)
      ·
       have c19 := bc19
       have c19 := bne_iff_ne.1 c19
       refine l_off S rfl rfl rfl rfl bc19 rfl rfl ?_; clear S a; intro a S
       refine l_off S rfl rfl rfl rfl bc19 rfl rfl ?_; clear S a; intro a S
       refine l_off S rfl rfl rfl rfl bc19 rfl rfl ?_; clear S a; intro a S
       refine l_offU S rfl rfl rfl rfl rfl rfl ?_; clear S a; intro a S
       refine l_offU S rfl rfl rfl rfl rfl rfl ?_; clear S a; intro a S
       refine l_off S rfl rfl rfl rfl bc19 rfl rfl ?_; clear S a; intro a S
       refine l_off S rfl rfl rfl rfl bc19 rfl rfl ?_; clear S a; intro a S
       refine l_offU S rfl rfl rfl rfl rfl rfl ?_; clear S a; intro a S
       refine l_offU S rfl rfl rfl rfl rfl rfl ?_; clear S a; intro a S
       refine l_off S rfl rfl rfl rfl bc19 rfl rfl ?_; clear S a; intro a S
       refine l_off S rfl rfl rfl rfl bc19 rfl rfl ?_; clear S a; intro a S
       refine l_offU S rfl rfl rfl rfl rfl rfl ?_; clear S a; intro a S
       refine l_offU S rfl rfl rfl rfl rfl rfl ?_; clear S a; intro a S
       refine l_offU S rfl rfl rfl rfl rfl rfl ?_; clear S a; intro a S
       refine l_offU S rfl rfl rfl rfl rfl rfl ?_; clear S a; intro a S
       refine l_offU S rfl rfl rfl rfl rfl rfl ?_; clear S a; intro a S
       refine l_offU S rfl rfl rfl rfl rfl rfl ?_; clear S a; intro a S
       refine l_off S rfl rfl rfl rfl bc19 rfl rfl ?_; clear S a; intro a S
       refine l_pure S (p_pick_t rfl bc19 rfl) rfl rfl rfl ?_; clear S a; intro a S
       refine l_nil ?_
       refine e_then ?_
       refine c_cond (b := true) S rfl (fun _ => ?_) (fun h => by cases h)
       refine wp_seq ?_
       refine c_region ?_
       refine l_pure S (p_assign rfl) rfl rfl rfl ?_; clear S a; intro a S
       refine l_nil ?_
       refine e_then ?_
       refine wp_ret ?_
       refine e_then_ret ?_
       exact r_ret1 S rfl rfl ⟨rfl, H.below⟩
      ·
       have c19 := bc19
       have c19 := bne_eq_false_iff_eq.1 c19
       refine l_on S rfl rfl rfl rfl bc19 ?_
       refine l_pure S (p_move rfl) rfl rfl rfl ?_; clear S a; intro a S
       refine l_on S rfl rfl rfl rfl bc19 ?_
       refine l_pure S (p_lss rfl rfl) rfl rfl rfl ?_; clear S a; intro a S
       refine l_on S rfl rfl rfl rfl bc19 ?_
       refine l_pure S (p_move rfl) rfl rfl rfl ?_; clear S a; intro a S
       refine l_split (S.of 62 rfl) (fun bc24 => ?_) (fun bc24 => ?_)
       ·
        have c24 := bc24
        have c24 := of_decide_eq_true c24
        refine l_on S rfl rfl rfl rfl bc24 ?_
        refine l_pure S (p_move rfl) rfl rfl rfl ?_; clear S a; intro a S
        refine l_on S rfl rfl rfl rfl bc24 ?_
        refine l_pure S (p_neq rfl rfl) rfl rfl rfl ?_; clear S a; intro a S
        refine l_on S rfl rfl rfl rfl bc19 ?_
        refine l_pure S (p_pick_t rfl bc24 rfl) rfl rfl rfl ?_; clear S a; intro a S
        refine l_on S rfl rfl rfl rfl bc19 ?_
        refine l_pure S (p_move rfl) rfl rfl rfl ?_; clear S a; intro a S
        refine l_split (S.of 66 rfl) (fun bc26 => ?_) (fun bc26 => ?_)
        ·
         have c26 := bc26
         have c26 := bne_iff_ne.1 c26
         refine l_on S rfl rfl rfl rfl bc26 ?_
         refine l_pure S (p_move rfl) rfl rfl rfl ?_; clear S a; intro a S
         refine l_on S rfl rfl rfl rfl bc26 ?_
         refine l_pure S (p_neq rfl rfl) rfl rfl rfl ?_; clear S a; intro a S
         refine l_on S rfl rfl rfl rfl bc19 ?_
         refine l_pure S (p_pick_t rfl bc26 rfl) rfl rfl rfl ?_; clear S a; intro a S
         refine l_on S rfl rfl rfl rfl bc19 ?_
         refine l_pure S (p_move rfl) rfl rfl rfl ?_; clear S a; intro a S
         refine l_split (S.of 70 rfl) (fun bc28 => ?_) (fun bc28 => ?_)
         ·
          have c28 := bc28
          have c28 := bne_iff_ne.1 c28
          refine l_on S rfl rfl rfl rfl bc28 ?_
          refine l_pure S (p_move rfl) rfl rfl rfl ?_; clear S a; intro a S
          refine l_on S rfl rfl rfl rfl bc28 ?_
          refine l_pure S (p_neq rfl rfl) rfl rfl rfl ?_; clear S a; intro a S
          refine l_on S rfl rfl rfl rfl bc28 ?_
          refine l_pure S (p_move rfl) rfl rfl rfl ?_; clear S a; intro a S
          refine l_split (S.of 73 rfl) (fun bc30 => ?_) (fun bc30 => ?_)
          ·
           have c30 := bc30
           have c30 := bne_iff_ne.1 c30
           refine l_off S rfl rfl rfl rfl bc30 rfl rfl ?_; clear S a; intro a S
           refine l_off S rfl rfl rfl rfl bc30 rfl rfl ?_; clear S a; intro a S
           refine l_on S rfl rfl rfl rfl bc28 ?_
           refine l_pure S (p_pick_t rfl bc30 rfl) rfl rfl rfl ?_; clear S a; intro a S
           refine l_on S rfl rfl rfl rfl bc19 ?_
           refine l_pure S (p_pick_t rfl bc28 rfl) rfl rfl rfl ?_; clear S a; intro a S
           refine l_pure S (p_pick_f rfl bc19 rfl) rfl rfl rfl ?_; clear S a; intro a S
           refine l_nil ?_
           refine e_then ?_
           refine c_cond (b := true) S rfl (fun _ => ?_) (fun h => by cases h)
           refine wp_seq ?_
           refine c_region ?_
           refine l_pure S (p_assign rfl) rfl rfl rfl ?_; clear S a; intro a S
           refine l_nil ?_
           refine e_then ?_
           refine wp_ret ?_
           refine e_then_ret ?_
           exact r_ret1 S rfl rfl ⟨rfl, H.below⟩
          ·
           have c30 := bc30
           have c30 := bne_eq_false_iff_eq.1 c30
           refine l_on S rfl rfl rfl rfl bc30 ?_
           refine l_pure S (p_move rfl) rfl rfl rfl ?_; clear S a; intro a S
           refine l_on S rfl rfl rfl rfl bc30 ?_
           refine l_pure S (p_eql rfl rfl) rfl rfl rfl ?_; clear S a; intro a S
           refine l_on S rfl rfl rfl rfl bc28 ?_
           refine l_pure S (p_pick_f rfl bc30 rfl) rfl rfl rfl ?_; clear S a; intro a S
           refine l_on S rfl rfl rfl rfl bc19 ?_
           refine l_pure S (p_pick_t rfl bc28 rfl) rfl rfl rfl ?_; clear S a; intro a S
           refine l_pure S (p_pick_f rfl bc19 rfl) rfl rfl rfl ?_; clear S a; intro a S
           refine l_nil ?_
           refine e_then ?_
           refine c_cond S rfl (fun bc35 => ?_) (fun bc35 => ?_)
           ·
            have c35 := bc35
            have c35 := eq_of_beq c35
            refine wp_seq ?_
            refine c_region ?_
            refine l_pure S (p_assign rfl) rfl rfl rfl ?_; clear S a; intro a S
            refine l_nil ?_
            refine e_then ?_
            refine wp_ret ?_
            refine e_then_ret ?_
            exact r_ret1 S rfl rfl ⟨rfl, H.below⟩
           ·
            have c35 := bc35
            have c35 := ne_of_beq_false c35
            refine wp_skip ?_
            refine e_then ?_
            exact ⟨S.only ⟨rfl, rfl, rfl, rfl, trivial⟩, H, ⟨by omega, by unfold endOk; omega⟩⟩
         ·
          have c28 := bc28
          have c28 := bne_eq_false_iff_eq.1 c28
          refine l_off S rfl rfl rfl rfl bc28 rfl rfl ?_; clear S a; intro a S
          refine l_off S rfl rfl rfl rfl bc28 rfl rfl ?_; clear S a; intro a S
          refine l_off S rfl rfl rfl rfl bc28 rfl rfl ?_; clear S a; intro a S
          refine l_offU S rfl rfl rfl rfl rfl rfl ?_; clear S a; intro a S
          refine l_offU S rfl rfl rfl rfl rfl rfl ?_; clear S a; intro a S
          refine l_off S rfl rfl rfl rfl bc28 rfl rfl ?_; clear S a; intro a S
          refine l_on S rfl rfl rfl rfl bc19 ?_
          refine l_pure S (p_pick_f rfl bc28 rfl) rfl rfl rfl ?_; clear S a; intro a S
          refine l_pure S (p_pick_f rfl bc19 rfl) rfl rfl rfl ?_; clear S a; intro a S
          refine l_nil ?_
          refine e_then ?_
          refine c_cond (b := false) S rfl (fun h => by cases h) (fun _ => ?_)
          refine wp_skip ?_
          refine e_then ?_
          exact ⟨S.only ⟨rfl, rfl, rfl, rfl, trivial⟩, H, ⟨by omega, by unfold endOk; omega⟩⟩
        ·
         have c26 := bc26
         have c26 := bne_eq_false_iff_eq.1 c26
         refine l_off S rfl rfl rfl rfl bc26 rfl rfl ?_; clear S a; intro a S
         refine l_off S rfl rfl rfl rfl bc26 rfl rfl ?_; clear S a; intro a S
         refine l_on S rfl rfl rfl rfl bc19 ?_
         refine l_pure S (p_pick_f rfl bc26 rfl) rfl rfl rfl ?_; clear S a; intro a S
         refine l_on S rfl rfl rfl rfl bc19 ?_
         refine l_pure S (p_move rfl) rfl rfl rfl ?_; clear S a; intro a S
         refine l_off S rfl rfl rfl rfl rfl rfl rfl ?_; clear S a; intro a S
         refine l_off S rfl rfl rfl rfl rfl rfl rfl ?_; clear S a; intro a S
         refine l_off S rfl rfl rfl rfl rfl rfl rfl ?_; clear S a; intro a S
         refine l_offU S rfl rfl rfl rfl rfl rfl ?_; clear S a; intro a S
         refine l_offU S rfl rfl rfl rfl rfl rfl ?_; clear S a; intro a S
         refine l_off S rfl rfl rfl rfl rfl rfl rfl ?_; clear S a; intro a S
         refine l_on S rfl rfl rfl rfl bc19 ?_
         refine l_pure S (p_pick_f rfl rfl rfl) rfl rfl rfl ?_; clear S a; intro a S
         refine l_pure S (p_pick_f rfl bc19 rfl) rfl rfl rfl ?_; clear S a; intro a S
         refine l_nil ?_
         refine e_then ?_
         refine c_cond (b := false) S rfl (fun h => by cases h) (fun _ => ?_)
         refine wp_skip ?_
         refine e_then ?_
         exact ⟨S.only ⟨rfl, rfl, rfl, rfl, trivial⟩, H, ⟨by omega, by unfold endOk; omega⟩⟩
       ·
        have c24 := bc24
        have c24 := of_decide_eq_false c24
        refine l_off S rfl rfl rfl rfl bc24 rfl rfl ?_; clear S a; intro a S
        refine l_off S rfl rfl rfl rfl bc24 rfl rfl ?_; clear S a; intro a S
        refine l_on S rfl rfl rfl rfl bc19 ?_
        refine l_pure S (p_pick_f rfl bc24 rfl) rfl rfl rfl ?_; clear S a; intro a S
        refine l_on S rfl rfl rfl rfl bc19 ?_
        refine l_pure S (p_move rfl) rfl rfl rfl ?_; clear S a; intro a S
        refine l_off S rfl rfl rfl rfl rfl rfl rfl ?_; clear S a; intro a S
        refine l_off S rfl rfl rfl rfl rfl rfl rfl ?_; clear S a; intro a S
        refine l_on S rfl rfl rfl rfl bc19 ?_
        refine l_pure S (p_pick_f rfl rfl rfl) rfl rfl rfl ?_; clear S a; intro a S
        refine l_on S rfl rfl rfl rfl bc19 ?_
        refine l_pure S (p_move rfl) rfl rfl rfl ?_; clear S a; intro a S
        refine l_off S rfl rfl rfl rfl rfl rfl rfl ?_; clear S a; intro a S
        refine l_off S rfl rfl rfl rfl rfl rfl rfl ?_; clear S a; intro a S
        refine l_off S rfl rfl rfl rfl rfl rfl rfl ?_; clear S a; intro a S
        refine l_offU S rfl rfl rfl rfl rfl rfl ?_; clear S a; intro a S
        refine l_offU S rfl rfl rfl rfl rfl rfl ?_; clear S a; intro a S
        refine l_off S rfl rfl rfl rfl rfl rfl rfl ?_; clear S a; intro a S
        refine l_on S rfl rfl rfl rfl bc19 ?_
        refine l_pure S (p_pick_f rfl rfl rfl) rfl rfl rfl ?_; clear S a; intro a S
        refine l_pure S (p_pick_f rfl bc19 rfl) rfl rfl rfl ?_; clear S a; intro a S
        refine l_nil ?_
        refine e_then ?_
        refine c_cond (b := false) S rfl (fun h => by cases h) (fun _ => ?_)
        refine wp_skip ?_
        refine e_then ?_
        exact ⟨S.only ⟨rfl, rfl, rfl, rfl, trivial⟩, H, ⟨by omega, by unfold endOk; omega⟩⟩
     ·
      have c17 := bc17
      have c17 := ne_of_beq_false c17
      refine l_off S rfl rfl rfl rfl bc17 rfl rfl ?_; clear S a; intro a S
      refine l_off S rfl rfl rfl rfl bc17 rfl rfl ?_; clear S a; intro a S
      refine l_pure S (p_pick_f rfl bc17 rfl) rfl rfl rfl ?_; clear S a; intro a S
      refine l_pure S (p_move rfl) rfl rfl rfl ?_; clear S a; intro a S
      refine l_on S rfl rfl rfl rfl rfl ?_
      refine l_pure S (p_move rfl) rfl rfl rfl ?_; clear S a; intro a S
      refine l_on S rfl rfl rfl rfl rfl ?_
      refine l_pure S (p_lss rfl rfl) rfl rfl rfl ?_; clear S a; intro a S
      refine l_on S rfl rfl rfl rfl rfl ?_
      refine l_pure S (p_move rfl) rfl rfl rfl ?_; clear S a; intro a S
      refine l_split (S.of 62 rfl) (fun bc48 => ?_) (fun bc48 => ?_)
      ·
       have c48 := bc48
       have c48 := of_decide_eq_true c48
       refine l_on S rfl rfl rfl rfl bc48 ?_
       refine l_pure S (p_move rfl) rfl rfl rfl ?_; clear S a; intro a S
       refine l_on S rfl rfl rfl rfl bc48 ?_
       refine l_pure S (p_neq rfl rfl) rfl rfl rfl ?_; clear S a; intro a S
       refine l_on S rfl rfl rfl rfl rfl ?_
       refine l_pure S (p_pick_t rfl bc48 rfl) rfl rfl rfl ?_; clear S a; intro a S
       refine l_on S rfl rfl rfl rfl rfl ?_
       refine l_pure S (p_move rfl) rfl rfl rfl ?_; clear S a; intro a S
       refine l_split (S.of 66 rfl) (fun bc50 => ?_) (fun bc50 => ?_)
       ·
        have c50 := bc50
        have c50 := bne_iff_ne.1 c50
        refine l_on S rfl rfl rfl rfl bc50 ?_
        refine l_pure S (p_move rfl) rfl rfl rfl ?_; clear S a; intro a S
        refine l_on S rfl rfl rfl rfl bc50 ?_
        refine l_pure S (p_neq rfl rfl) rfl rfl rfl ?_; clear S a; intro a S
        refine l_on S rfl rfl rfl rfl rfl ?_
        refine l_pure S (p_pick_t rfl bc50 rfl) rfl rfl rfl ?_; clear S a; intro a S
        refine l_on S rfl rfl rfl rfl rfl ?_
        refine l_pure S (p_move rfl) rfl rfl rfl ?_; clear S a; intro a S
        refine l_split (S.of 70 rfl) (fun bc52 => ?_) (fun bc52 => ?_)
        ·
         have c52 := bc52
         have c52 := bne_iff_ne.1 c52
         refine l_on S rfl rfl rfl rfl bc52 ?_
         refine l_pure S (p_move rfl) rfl rfl rfl ?_; clear S a; intro a S
         refine l_on S rfl rfl rfl rfl bc52 ?_
         refine l_pure S (p_neq rfl rfl) rfl rfl rfl ?_; clear S a; intro a S
         refine l_on S rfl rfl rfl rfl bc52 ?_
         refine l_pure S (p_move rfl) rfl rfl rfl ?_; clear S a; intro a S
         refine l_split (S.of 73 rfl) (fun bc54 => ?_) (fun bc54 => ?_)
         ·
          have c54 := bc54
          have c54 := bne_iff_ne.1 c54
          refine l_off S rfl rfl rfl rfl bc54 rfl rfl ?_; clear S a; intro a S
          refine l_off S rfl rfl rfl rfl bc54 rfl rfl ?_; clear S a; intro a S
          refine l_on S rfl rfl rfl rfl bc52 ?_
          refine l_pure S (p_pick_t rfl bc54 rfl) rfl rfl rfl ?_; clear S a; intro a S
          refine l_on S rfl rfl rfl rfl rfl ?_
          refine l_pure S (p_pick_t rfl bc52 rfl) rfl rfl rfl ?_; clear S a; intro a S
          refine l_pure S (p_pick_f rfl rfl rfl) rfl rfl rfl ?_; clear S a; intro a S
          refine l_nil ?_
          refine e_then ?_
          refine c_cond (b := true) S rfl (fun _ => ?_) (fun h => by cases h)
          refine wp_seq ?_
          refine c_region ?_
          refine l_pure S (p_assign rfl) rfl rfl rfl ?_; clear S a; intro a S
          refine l_nil ?_
          refine e_then ?_
          refine wp_ret ?_
          refine e_then_ret ?_
          exact r_ret1 S rfl rfl ⟨rfl, H.below⟩
         ·
          have c54 := bc54
          have c54 := bne_eq_false_iff_eq.1 c54
          refine l_on S rfl rfl rfl rfl bc54 ?_
          refine l_pure S (p_move rfl) rfl rfl rfl ?_; clear S a; intro a S
          refine l_on S rfl rfl rfl rfl bc54 ?_
          refine l_pure S (p_eql rfl rfl) rfl rfl rfl ?_; clear S a; intro a S
          refine l_on S rfl rfl rfl rfl bc52 ?_
          refine l_pure S (p_pick_f rfl bc54 rfl) rfl rfl rfl ?_; clear S a; intro a S
          refine l_on S rfl rfl rfl rfl rfl ?_
          refine l_pure S (p_pick_t rfl bc52 rfl) rfl rfl rfl ?_; clear S a; intro a S
          refine l_pure S (p_pick_f rfl rfl rfl) rfl rfl rfl ?_; clear S a; intro a S
          refine l_nil ?_
          refine e_then ?_
          refine c_cond S rfl (fun bc59 => ?_) (fun bc59 => ?_)
          ·
           have c59 := bc59
           have c59 := eq_of_beq c59
           refine wp_seq ?_
           refine c_region ?_
           refine l_pure S (p_assign rfl) rfl rfl rfl ?_; clear S a; intro a S
           refine l_nil ?_
           refine e_then ?_
           refine wp_ret ?_
           refine e_then_ret ?_
           exact r_ret1 S rfl rfl ⟨rfl, H.below⟩
          ·
           have c59 := bc59
           have c59 := ne_of_beq_false c59
           refine wp_skip ?_
           refine e_then ?_
           exact ⟨S.only ⟨rfl, rfl, rfl, rfl, trivial⟩, H, ⟨by omega, by unfold endOk; omega⟩⟩
        ·
         have c52 := bc52
         have c52 := bne_eq_false_iff_eq.1 c52
         refine l_off S rfl rfl rfl rfl bc52 rfl rfl ?_; clear S a; intro a S
         refine l_off S rfl rfl rfl rfl bc52 rfl rfl ?_; clear S a; intro a S
         refine l_off S rfl rfl rfl rfl bc52 rfl rfl ?_; clear S a; intro a S
         refine l_offU S rfl rfl rfl rfl rfl rfl ?_; clear S a; intro a S
         refine l_offU S rfl rfl rfl rfl rfl rfl ?_; clear S a; intro a S
         refine l_off S rfl rfl rfl rfl bc52 rfl rfl ?_; clear S a; intro a S
         refine l_on S rfl rfl rfl rfl rfl ?_
         refine l_pure S (p_pick_f rfl bc52 rfl) rfl rfl rfl ?_; clear S a; intro a S
         refine l_pure S (p_pick_f rfl rfl rfl) rfl rfl rfl ?_; clear S a; intro a S
         refine l_nil ?_
         refine e_then ?_
         refine c_cond (b := false) S rfl (fun h => by cases h) (fun _ => ?_)
         refine wp_skip ?_
         refine e_then ?_
         exact ⟨S.only ⟨rfl, rfl, rfl, rfl, trivial⟩, H, ⟨by omega, by unfold endOk; omega⟩⟩
       ·
        have c50 := bc50
        have c50 := bne_eq_false_iff_eq.1 c50
        refine l_off S rfl rfl rfl rfl bc50 rfl rfl ?_; clear S a; intro a S
        refine l_off S rfl rfl rfl rfl bc50 rfl rfl ?_; clear S a; intro a S
        refine l_on S rfl rfl rfl rfl rfl ?_
        refine l_pure S (p_pick_f rfl bc50 rfl) rfl rfl rfl ?_; clear S a; intro a S
        refine l_on S rfl rfl rfl rfl rfl ?_
        refine l_pure S (p_move rfl) rfl rfl rfl ?_; clear S a; intro a S
        refine l_off S rfl rfl rfl rfl rfl rfl rfl ?_; clear S a; intro a S
        refine l_off S rfl rfl rfl rfl rfl rfl rfl ?_; clear S a; intro a S
        refine l_off S rfl rfl rfl rfl rfl rfl rfl ?_; clear S a; intro a S
        refine l_offU S rfl rfl rfl rfl rfl rfl ?_; clear S a; intro a S
        refine l_offU S rfl rfl rfl rfl rfl rfl ?_; clear S a; intro a S
        refine l_off S rfl rfl rfl rfl rfl rfl rfl ?_; clear S a; intro a S
        refine l_on S rfl rfl rfl rfl rfl ?_
        refine l_pure S (p_pick_f rfl rfl rfl) rfl rfl rfl ?_; clear S a; intro a S
        refine l_pure S (p_pick_f rfl rfl rfl) rfl rfl rfl ?_; clear S a; intro a S
        refine l_nil ?_
        refine e_then ?_
        refine c_cond (b := false) S rfl (fun h => by cases h) (fun _ => ?_)
        refine wp_skip ?_
        refine e_then ?_
        exact ⟨S.only ⟨rfl, rfl, rfl, rfl, trivial⟩, H, ⟨by omega, by unfold endOk; omega⟩⟩
      ·
       have c48 := bc48
       have c48 := of_decide_eq_false c48
       refine l_off S rfl rfl rfl rfl bc48 rfl rfl ?_; clear S a; intro a S
       refine l_off S rfl rfl rfl rfl bc48 rfl rfl ?_; clear S a; intro a S
       refine l_on S rfl rfl rfl rfl rfl ?_
       refine l_pure S (p_pick_f rfl bc48 rfl) rfl rfl rfl ?_; clear S a; intro a S
       refine l_on S rfl rfl rfl rfl rfl ?_
       refine l_pure S (p_move rfl) rfl rfl rfl ?_; clear S a; intro a S
       refine l_off S rfl rfl rfl rfl rfl rfl rfl ?_; clear S a; intro a S
       refine l_off S rfl rfl rfl rfl rfl rfl rfl ?_; clear S a; intro a S
       refine l_on S rfl rfl rfl rfl rfl ?_
       refine l_pure S (p_pick_f rfl rfl rfl) rfl rfl rfl ?_; clear S a; intro a S
       refine l_on S rfl rfl rfl rfl rfl ?_
       refine l_pure S (p_move rfl) rfl rfl rfl ?_; clear S a; intro a S
       refine l_off S rfl rfl rfl rfl rfl rfl rfl ?_; clear S a; intro a S
       refine l_off S rfl rfl rfl rfl rfl rfl rfl ?_; clear S a; intro a S
       refine l_off S rfl rfl rfl rfl rfl rfl rfl ?_; clear S a; intro a S
       refine l_offU S rfl rfl rfl rfl rfl rfl ?_; clear S a; intro a S
       refine l_offU S rfl rfl rfl rfl rfl rfl ?_; clear S a; intro a S
       refine l_off S rfl rfl rfl rfl rfl rfl rfl ?_; clear S a; intro a S
       refine l_on S rfl rfl rfl rfl rfl ?_
       refine l_pure S (p_pick_f rfl rfl rfl) rfl rfl rfl ?_; clear S a; intro a S
       refine l_pure S (p_pick_f rfl rfl rfl) rfl rfl rfl ?_; clear S a; intro a S
       refine l_nil ?_
       refine e_then ?_
       refine c_cond (b := false) S rfl (fun h => by cases h) (fun _ => ?_)
       refine wp_skip ?_
       refine e_then ?_
       exact ⟨S.only ⟨rfl, rfl, rfl, rfl, trivial⟩, H, ⟨by omega, by unfold endOk; omega⟩⟩
   ·
    refine wp_seq ?_
    refine c_region ?_
    refine l_pure S (p_move rfl) rfl rfl rfl ?_; clear S a; intro a S
    refine l_pure S (p_lss rfl rfl) rfl rfl rfl ?_; clear S a; intro a S
    refine l_pure S (p_move rfl) rfl rfl rfl ?_; clear S a; intro a S
    refine l_split (S.of 25 rfl) (fun bc71 => ?_) (fun bc71 => ?_)
    ·
     have c71 := bc71
     have c71 := of_decide_eq_true c71
     refine l_off S rfl rfl rfl rfl bc71 rfl rfl ?_; clear S a; intro a S
     refine l_off S rfl rfl rfl rfl bc71 rfl rfl ?_; clear S a; intro a S
     refine l_pure S (p_pick_t rfl bc71 rfl) rfl rfl rfl ?_; clear S a; intro a S
     refine l_pure S (p_move rfl) rfl rfl rfl ?_; clear S a; intro a S
     refine l_off S rfl rfl rfl rfl rfl rfl rfl ?_; clear S a; intro a S
     refine l_off S rfl rfl rfl rfl rfl rfl rfl ?_; clear S a; intro a S
     refine l_off S rfl rfl rfl rfl rfl rfl rfl ?_; clear S a; intro a S
     refine l_pure S (p_pick_t rfl rfl rfl) rfl rfl rfl ?_; clear S a; intro a S
     refine l_pure S (p_move rfl) rfl rfl rfl ?_; clear S a; intro a S
     refine l_off S rfl rfl rfl rfl rfl rfl rfl ?_; clear S a; intro a S
     refine l_off S rfl rfl rfl rfl rfl rfl rfl ?_; clear S a; intro a S
     refine l_off S rfl rfl rfl rfl rfl rfl rfl ?_; clear S a; intro a S
     refine l_pure S (p_pick_t rfl rfl rfl) rfl rfl rfl ?_; clear S a; intro a S
     refine l_pure S (p_move rfl) rfl rfl rfl ?_; clear S a; intro a S
     refine l_off S rfl rfl rfl rfl rfl rfl rfl ?_; clear S a; intro a S
     refine l_off S rfl rfl rfl rfl rfl rfl rfl ?_; clear S a; intro a S
     refine l_off S rfl rfl rfl rfl rfl rfl rfl ?_; clear S a; intro a S
     refine l_pure S (p_pick_t rfl rfl rfl) rfl rfl rfl ?_; clear S a; intro a S
     refine l_pure S (p_move rfl) rfl rfl rfl ?_; clear S a; intro a S
     refine l_off S rfl rfl rfl rfl rfl rfl rfl ?_; clear S a; intro a S
     refine l_off S rfl rfl rfl rfl rfl rfl rfl ?_; clear S a; intro a S
     refine l_off S rfl rfl rfl rfl rfl rfl rfl ?_; clear S a; intro a S
     refine l_offU S rfl rfl rfl rfl rfl rfl ?_; clear S a; intro a S
     refine l_offU S rfl rfl rfl rfl rfl rfl ?_; clear S a; intro a S
     refine l_offU S rfl rfl rfl rfl rfl rfl ?_; clear S a; intro a S
     refine l_off S rfl rfl rfl rfl rfl rfl rfl ?_; clear S a; intro a S
     refine l_pure S (p_pick_t rfl rfl rfl) rfl rfl rfl ?_; clear S a; intro a S
     refine l_nil ?_
     refine e_then ?_
     refine c_cond (b := true) S rfl (fun _ => ?_) (fun h => by cases h)
     refine wp_seq ?_
     refine c_region ?_
     refine l_pure S (p_assign rfl) rfl rfl rfl ?_; clear S a; intro a S
     refine l_nil ?_
     refine e_then ?_
     refine wp_ret ?_
     refine e_then_ret ?_
     exact r_ret1 S rfl rfl ⟨rfl, H.below⟩
    ·
     have c71 := bc71
     have c71 := of_decide_eq_false c71
     refine l_on S rfl rfl rfl rfl bc71 ?_
     refine l_pure S (p_move rfl) rfl rfl rfl ?_; clear S a; intro a S
     refine l_on S rfl rfl rfl rfl bc71 ?_
     refine l_pure S (p_gtr rfl rfl) rfl rfl rfl ?_; clear S a; intro a S
     refine l_pure S (p_pick_f rfl bc71 rfl) rfl rfl rfl ?_; clear S a; intro a S
     refine l_pure S (p_move rfl) rfl rfl rfl ?_; clear S a; intro a S
     refine l_split (S.of 29 rfl) (fun bc80 => ?_) (fun bc80 => ?_)
     ·
      have c80 := bc80
      have c80 := of_decide_eq_true c80
      refine l_off S rfl rfl rfl rfl bc80 rfl rfl ?_; clear S a; intro a S
      refine l_off S rfl rfl rfl rfl bc80 rfl rfl ?_; clear S a; intro a S
      refine l_off S rfl rfl rfl rfl bc80 rfl rfl ?_; clear S a; intro a S
      refine l_pure S (p_pick_t rfl bc80 rfl) rfl rfl rfl ?_; clear S a; intro a S
      refine l_pure S (p_move rfl) rfl rfl rfl ?_; clear S a; intro a S
      refine l_off S rfl rfl rfl rfl rfl rfl rfl ?_; clear S a; intro a S
      refine l_off S rfl rfl rfl rfl rfl rfl rfl ?_; clear S a; intro a S
      refine l_off S rfl rfl rfl rfl rfl rfl rfl ?_; clear S a; intro a S
      refine l_pure S (p_pick_t rfl rfl rfl) rfl rfl rfl ?_; clear S a; intro a S
      refine l_pure S (p_move rfl) rfl rfl rfl ?_; clear S a; intro a S
      refine l_off S rfl rfl rfl rfl rfl rfl rfl ?_; clear S a; intro a S
      refine l_off S rfl rfl rfl rfl rfl rfl rfl ?_; clear S a; intro a S
      refine l_off S rfl rfl rfl rfl rfl rfl rfl ?_; clear S a; intro a S
      refine l_pure S (p_pick_t rfl rfl rfl) rfl rfl rfl ?_; clear S a; intro a S
      refine l_pure S (p_move rfl) rfl rfl rfl ?_; clear S a; intro a S
      refine l_off S rfl rfl rfl rfl rfl rfl rfl ?_; clear S a; intro a S
      refine l_off S rfl rfl rfl rfl rfl rfl rfl ?_; clear S a; intro a S
      refine l_off S rfl rfl rfl rfl rfl rfl rfl ?_; clear S a; intro a S
      refine l_offU S rfl rfl rfl rfl rfl rfl ?_; clear S a; intro a S
      refine l_offU S rfl rfl rfl rfl rfl rfl ?_; clear S a; intro a S
      refine l_offU S rfl rfl rfl rfl rfl rfl ?_; clear S a; intro a S
      refine l_off S rfl rfl rfl rfl rfl rfl rfl ?_; clear S a; intro a S
      refine l_pure S (p_pick_t rfl rfl rfl) rfl rfl rfl ?_; clear S a; intro a S
      refine l_nil ?_
      refine e_then ?_
      refine c_cond (b := true) S rfl (fun _ => ?_) (fun h => by cases h)
      refine wp_seq ?_
      refine c_region ?_
      refine l_pure S (p_assign rfl) rfl rfl rfl ?_; clear S a; intro a S
      refine l_nil ?_
      refine e_then ?_
      refine wp_ret ?_
      refine e_then_ret ?_
      exact r_ret1 S rfl rfl ⟨rfl, H.below⟩
     ·
      have c80 := bc80
      have c80 := of_decide_eq_false c80
      refine l_on S rfl rfl rfl rfl bc80 ?_
      refine l_pure S (p_move rfl) rfl rfl rfl ?_; clear S a; intro a S
      refine l_on S rfl rfl rfl rfl bc80 ?_
      refine l_pure S (p_lens Tryd.underlying9 rfl) rfl rfl rfl ?_; clear S a; intro a S
      refine l_on S rfl rfl rfl rfl bc80 ?_
      refine l_pure S (p_gtr rfl rfl) rfl rfl rfl ?_; clear S a; intro a S
      refine l_pure S (p_pick_f rfl bc80 rfl) rfl rfl rfl ?_; clear S a; intro a S
      refine l_pure S (p_move rfl) rfl rfl rfl ?_; clear S a; intro a S
      refine l_split (S.of 34 rfl) (fun bc88 => ?_) (fun bc88 => ?_)
      ·
       have c88 := bc88
       have c88 := of_decide_eq_true c88
       refine l_off S rfl rfl rfl rfl bc88 rfl rfl ?_; clear S a; intro a S
       refine l_off S rfl rfl rfl rfl bc88 rfl rfl ?_; clear S a; intro a S
       refine l_off S rfl rfl rfl rfl bc88 rfl rfl ?_; clear S a; intro a S
       refine l_pure S (p_pick_t rfl bc88 rfl) rfl rfl rfl ?_; clear S a; intro a S
       refine l_pure S (p_move rfl) rfl rfl rfl ?_; clear S a; intro a S
       refine l_off S rfl rfl rfl rfl rfl rfl rfl ?_; clear S a; intro a S
       refine l_off S rfl rfl rfl rfl rfl rfl rfl ?_; clear S a; intro a S
       refine l_off S rfl rfl rfl rfl rfl rfl rfl ?_; clear S a; intro a S
       refine l_pure S (p_pick_t rfl rfl rfl) rfl rfl rfl ?_; clear S a; intro a S
       refine l_pure S (p_move rfl) rfl rfl rfl ?_; clear S a; intro a S
       refine l_off S rfl rfl rfl rfl rfl rfl rfl ?_; clear S a; intro a S
       refine l_off S rfl rfl rfl rfl rfl rfl rfl ?_; clear S a; intro a S
       refine l_off S rfl rfl rfl rfl rfl rfl rfl ?_; clear S a; intro a S
       refine l_offU S rfl rfl rfl rfl rfl rfl ?_; clear S a; intro a S
       refine l_offU S rfl rfl rfl rfl rfl rfl ?_; clear S a; intro a S
       refine l_offU S rfl rfl rfl rfl rfl rfl ?_; clear S a; intro a S
       refine l_off S rfl rfl rfl rfl rfl rfl rfl ?_; clear S a; intro a S
       refine l_pure S (p_pick_t rfl rfl rfl) rfl rfl rfl ?_; clear S a; intro a S
       refine l_nil ?_
       refine e_then ?_
       refine c_cond (b := true) S rfl (fun _ => ?_) (fun h => by cases h)
       refine wp_seq ?_
       refine c_region ?_
       refine l_pure S (p_assign rfl) rfl rfl rfl ?_; clear S a; intro a S
       refine l_nil ?_
       refine e_then ?_
       refine wp_ret ?_
       refine e_then_ret ?_
       exact r_ret1 S rfl rfl ⟨rfl, H.below⟩
      ·
       have c88 := bc88
       have c88 := of_decide_eq_false c88
       refine l_on S rfl rfl rfl rfl bc88 ?_
       refine l_pure S (p_move rfl) rfl rfl rfl ?_; clear S a; intro a S
       refine l_on S rfl rfl rfl rfl bc88 ?_
       refine l_pure S (p_lens Tryd.underlying9 rfl) rfl rfl rfl ?_; clear S a; intro a S
       refine l_on S rfl rfl rfl rfl bc88 ?_
       refine l_pure S (p_gtr rfl rfl) rfl rfl rfl ?_; clear S a; intro a S
       refine l_pure S (p_pick_f rfl bc88 rfl) rfl rfl rfl ?_; clear S a; intro a S
       refine l_pure S (p_move rfl) rfl rfl rfl ?_; clear S a; intro a S
       refine l_split (S.of 39 rfl) (fun bc95 => ?_) (fun bc95 => ?_)
       ·
        have c95 := bc95
        have c95 := of_decide_eq_true c95
        refine l_off S rfl rfl rfl rfl bc95 rfl rfl ?_; clear S a; intro a S
        refine l_off S rfl rfl rfl rfl bc95 rfl rfl ?_; clear S a; intro a S
        refine l_off S rfl rfl rfl rfl bc95 rfl rfl ?_; clear S a; intro a S
        refine l_pure S (p_pick_t rfl bc95 rfl) rfl rfl rfl ?_; clear S a; intro a S
        refine l_pure S (p_move rfl) rfl rfl rfl ?_; clear S a; intro a S
        refine l_off S rfl rfl rfl rfl rfl rfl rfl ?_; clear S a; intro a S
        refine l_off S rfl rfl rfl rfl rfl rfl rfl ?_; clear S a; intro a S
        refine l_off S rfl rfl rfl rfl rfl rfl rfl ?_; clear S a; intro a S
        refine l_offU S rfl rfl rfl rfl rfl rfl ?_; clear S a; intro a S
        refine l_offU S rfl rfl rfl rfl rfl rfl ?_; clear S a; intro a S
        refine l_offU S rfl rfl rfl rfl rfl rfl ?_; clear S a; intro a S
        refine l_off S rfl rfl rfl rfl rfl rfl rfl ?_; clear S a; intro a S
        refine l_pure S (p_pick_t rfl rfl rfl) rfl rfl rfl ?_; clear S a; intro a S
        refine l_nil ?_
        refine e_then ?_
        refine c_cond (b := true) S rfl (fun _ => ?_) (fun h => by cases h)
        refine wp_seq ?_
        refine c_region ?_
        refine l_pure S (p_assign rfl) rfl rfl rfl ?_; clear S a; intro a S
        refine l_nil ?_
        refine e_then ?_
        refine wp_ret ?_
        refine e_then_ret ?_
        exact r_ret1 S rfl rfl ⟨rfl, H.below⟩
       ·
        have c95 := bc95
        have c95 := of_decide_eq_false c95
        refine l_on S rfl rfl rfl rfl bc95 ?_
        refine l_pure S (p_move rfl) rfl rfl rfl ?_; clear S a; intro a S
        refine l_on S rfl rfl rfl rfl bc95 ?_
        have hcon := u8.utf8_ w0 _ w0.heap.size _ s H (by omega)
        refine l_call S rfl rfl Tryd.func7 rfl rfl (hcon) rfl rfl rfl ?_
        rintro e w ⟨rfl, hH⟩
        refine ⟨_, rfl, ?_⟩; clear S a; intro a S
        clear H hcon; have H := hH; clear hH
        refine l_on S rfl rfl rfl rfl bc95 ?_
        refine l_pure S (p_not rfl) rfl rfl rfl ?_; clear S a; intro a S
        refine l_pure S (p_pick_f rfl bc95 rfl) rfl rfl rfl ?_; clear S a; intro a S
        refine l_pure S (p_move rfl) rfl rfl rfl ?_; clear S a; intro a S
        refine l_split (S.of 44 rfl) (fun bc102 => ?_) (fun bc102 => ?_)
        ·
         have c102 := bc102
         replace c102 := not_eq_true_ c102
         
         refine l_off S rfl rfl rfl rfl bc102 rfl rfl ?_; clear S a; intro a S
         refine l_off S rfl rfl rfl rfl bc102 rfl rfl ?_; clear S a; intro a S
         refine l_off S rfl rfl rfl rfl bc102 rfl rfl ?_; clear S a; intro a S
         refine l_offU S rfl rfl rfl rfl rfl rfl ?_; clear S a; intro a S
         refine l_offU S rfl rfl rfl rfl rfl rfl ?_; clear S a; intro a S
         refine l_offU S rfl rfl rfl rfl rfl rfl ?_; clear S a; intro a S
         refine l_off S rfl rfl rfl rfl bc102 rfl rfl ?_; clear S a; intro a S
         refine l_pure S (p_pick_t rfl bc102 rfl) rfl rfl rfl ?_; clear S a; intro a S
         refine l_nil ?_
         refine e_then ?_
         refine c_cond (b := true) S rfl (fun _ => ?_) (fun h => by cases h)
         refine wp_seq ?_
         refine c_region ?_
         refine l_pure S (p_assign rfl) rfl rfl rfl ?_; clear S a; intro a S
         refine l_nil ?_
         refine e_then ?_
         refine wp_ret ?_
         refine e_then_ret ?_
         exact r_ret1 S rfl rfl ⟨rfl, H.below⟩
        ·
         have c102 := bc102
         replace c102 := not_eq_false_ c102
         
         refine l_on S rfl rfl rfl rfl bc102 ?_
         refine l_pure S (p_move rfl) rfl rfl rfl ?_; clear S a; intro a S
         refine l_on S rfl rfl rfl rfl bc102 ?_
         refine l_pure S (p_lss rfl rfl) rfl rfl rfl ?_; clear S a; intro a S
         refine l_on S rfl rfl rfl rfl bc102 ?_
         refine l_pure S (p_move rfl) rfl rfl rfl ?_; clear S a; intro a S
         refine l_split (S.of 47 rfl) (fun bc107 => ?_) (fun bc107 => ?_)
         ·
          have c107 := bc107
          have c107 := of_decide_eq_true c107
          refine l_on S rfl rfl rfl rfl bc107 ?_
          refine l_pure S (p_move rfl) rfl rfl rfl ?_; clear S a; intro a S
          refine l_on S rfl rfl rfl rfl bc107 ?_
          have hcon := keyRight_ w0 _ w0.heap.size _ s (by omega) H
          refine l_call S rfl rfl Tryd.func8 rfl rfl (hcon) rfl rfl rfl ?_
          rintro e w ⟨bk, rfl, hkr, hH⟩
          refine ⟨_, rfl, ?_⟩; clear S a; intro a S
          clear H hcon; have H := hH; clear hH
          refine l_on S rfl rfl rfl rfl bc107 ?_
          refine l_pure S (p_not rfl) rfl rfl rfl ?_; clear S a; intro a S
          refine l_on S rfl rfl rfl rfl bc102 ?_
          refine l_pure S (p_pick_t rfl bc107 rfl) rfl rfl rfl ?_; clear S a; intro a S
          refine l_pure S (p_pick_f rfl bc102 rfl) rfl rfl rfl ?_; clear S a; intro a S
          refine l_nil ?_
          refine e_then ?_
          refine c_cond S rfl (fun bc110 => ?_) (fun bc110 => ?_)
          ·
           have c110 := bc110
           replace c110 := not_eq_true_ c110
           
           refine wp_seq ?_
           refine c_region ?_
           refine l_pure S (p_assign rfl) rfl rfl rfl ?_; clear S a; intro a S
           refine l_nil ?_
           refine e_then ?_
           refine wp_ret ?_
           refine e_then_ret ?_
           exact r_ret1 S rfl rfl ⟨rfl, H.below⟩
          ·
           have c110 := bc110
           replace c110 := not_eq_false_ c110
           
           refine wp_skip ?_
           refine e_then ?_
           exact ⟨S.only ⟨rfl, rfl, rfl, rfl, trivial⟩, H, ⟨⟨by omega, by omega⟩, by omega, by omega, by assumption, fun _ => hkr (by assumption)⟩⟩
         ·
          have c107 := bc107
          have c107 := of_decide_eq_false c107
          refine l_off S rfl rfl rfl rfl bc107 rfl rfl ?_; clear S a; intro a S
          refine l_off S rfl rfl rfl rfl bc107 rfl rfl ?_; clear S a; intro a S
          refine l_off S rfl rfl rfl rfl bc107 rfl rfl ?_; clear S a; intro a S
          refine l_on S rfl rfl rfl rfl bc102 ?_
          refine l_pure S (p_pick_f rfl bc107 rfl) rfl rfl rfl ?_; clear S a; intro a S
          refine l_pure S (p_pick_f rfl bc102 rfl) rfl rfl rfl ?_; clear S a; intro a S
          refine l_nil ?_
          refine e_then ?_
          refine c_cond (b := false) S rfl (fun h => by cases h) (fun _ => ?_)
          refine wp_skip ?_
          refine e_then ?_
          exact ⟨S.only ⟨rfl, rfl, rfl, rfl, trivial⟩, H, ⟨⟨by omega, by omega⟩, by omega, by omega, by assumption, fun h => absurd h (by omega)⟩⟩
end gx
end Go.Proofs.YtbahngfpadjbhaaDoor.dec
