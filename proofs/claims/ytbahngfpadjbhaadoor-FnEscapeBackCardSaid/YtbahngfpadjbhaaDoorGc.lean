/- What is escaped. -/
import Derived.Test.YtbahngfpadjbhaaDoorGb
namespace Go.Proofs.YtbahngfpadjbhaaDoor.dec
open Go.RowKit Go.Proofs.HHW Go.Proofs.YtbahngfpadjbhaaDoorW.PrintWords
set_option linter.unusedVariables false
set_option linter.unusedSimpArgs false
namespace gc
theorem ag5 : aggB Tryd.prog 5 = some false := by kernel_rfl
theorem ag9 : aggB Tryd.prog 9 = some false := by kernel_rfl
theorem fa65_0 (w : World) (g o : Nat) : (Instr.fieldAt 65 (.pointer (some ⟨g, o, none⟩)) 0).run Tryd.prog w = .ok (.pointer (some ⟨g, o + 0, none⟩)) w := by kernel_rfl
theorem fa65_2 (w : World) (g o : Nat) : (Instr.fieldAt 65 (.pointer (some ⟨g, o, none⟩)) 2).run Tryd.prog w = .ok (.pointer (some ⟨g, o + 512, none⟩)) w := by kernel_rfl
theorem sz5 : szB Tryd.prog 5 = some 1 := by kernel_rfl
theorem in5 : (Tryd.prog.info? 5).map (fun i => (i.zero, i.size, i.bytes)) = some (some (.int .u8 0), 1, 1) := by kernel_rfl

theorem zzCount_ (w0 : World) (s t : ByteArray) (j : Nat) (hj : j < t.size) (hs : s.size ≤ 100000) : Calls Tryd.prog 58 #[.string s, .string (t.extract j (j + 1))] w0 fun e w' => e = .returned (.int .i64 (cnt (HHW.bt t (j : Int)) (ints s) : Int)) ∧ Below w0.heap.size w0 w' := by
  have H := HH.start w0
  have hz : (t.extract j (j + 1)).size = 1 := by rw [ByteArray.size_extract]; omega
  refine c_enter (args := [.string s, .string (t.extract j (j + 1))]) (k := 41) Tryd.func58 rfl rfl rfl (fun a S => ?_)
  refine wp_seq ?_
  refine c_region ?_
  refine l_pure S (p_assign rfl) rfl rfl rfl ?_; clear S a; intro a S
  refine l_nil ?_
  refine e_then ?_
  refine wp_seq ?_
  refine c_region ?_
  refine l_pure S (p_assign rfl) rfl rfl rfl ?_; clear S a; intro a S
  refine l_nil ?_
  refine e_then ?_
  refine wp_seq ?_
  refine wp_seq ?_
  refine c_region ?_
  refine l_pure S (p_move rfl) rfl rfl rfl ?_; clear S a; intro a S
  refine l_pure S (p_lens Tryd.underlying9 rfl) rfl rfl rfl ?_; clear S a; intro a S
  refine l_pure S (p_eql rfl rfl) rfl rfl rfl ?_; clear S a; intro a S
  refine l_nil ?_
  refine e_then ?_
  refine c_cond S rfl (fun c2 => by have c2 := eq_of_beq c2; exfalso; omega) (fun c2 => ?_)
  have c2 := ne_of_beq_false c2
  refine wp_skip ?_
  refine e_then ?_
  refine wp_seq ?_
  refine wp_seq ?_
  refine c_region ?_
  refine l_pure S (p_assign rfl) rfl rfl rfl ?_; clear S a; intro a S
  refine l_nil ?_
  refine e_then ?_
  refine wp_block ?_
  refine c_loop (σ := Nat × Nat) (fun s_ a w => match s_ with | ⟨i, n⟩ => SL a 43 [] [(0, .string s), (1, .string (t.extract j (j + 1))), (5, .int .i64 (n : Int)), (6, .int .i64 (i : Int))] ∧ HH (w0.heap.size) w0 w [] ∧ (i ≤ s.size ∧ n = cnt (HHW.bt t (j : Int)) ((ints s).take i))) (fun s_ => match s_ with | ⟨i, n⟩ => s.size - i) ⟨0, 0⟩ ⟨S.only ⟨rfl, rfl, rfl, rfl, trivial⟩, H, ⟨Nat.zero_le _, rfl⟩⟩ ?_
  clear S a H; rintro ⟨i, n⟩ a w ⟨S, H, hinv⟩
  obtain ⟨hi0, hn⟩ := hinv
  have hcl := cnt_le (HHW.bt t (j : Int)) ((ints s).take i)
  rw [List.length_take, ints_len, ← hn] at hcl
  refine wp_seq ?_
  refine wp_seq ?_
  refine c_region ?_
  refine l_pure S (p_move rfl) rfl rfl rfl ?_; clear S a; intro a S
  refine l_pure S (p_move rfl) rfl rfl rfl ?_; clear S a; intro a S
  refine l_pure S (p_lens Tryd.underlying9 rfl) rfl rfl rfl ?_; clear S a; intro a S
  refine l_pure S (p_add (r := ((i + 1 : Nat) : Int)) rfl rfl ((IntWalk.i64_in _ (by omega)).trans (by omega))) rfl rfl rfl ?_; clear S a; intro a S
  refine l_pure S (p_move rfl) rfl rfl rfl ?_; clear S a; intro a S
  refine l_pure S (p_lens Tryd.underlying9 rfl) rfl rfl rfl ?_; clear S a; intro a S
  refine l_pure S (p_leq rfl rfl) rfl rfl rfl ?_; clear S a; intro a S
  refine l_nil ?_
  refine e_then ?_
  refine c_cond S rfl (fun bc4 => ?_) (fun bc4 => ?_)
  · skip
    have c4 := bc4
    have c4 := of_decide_eq_true c4
    refine wp_skip ?_
    refine e_then ?_
    refine wp_block ?_
    refine wp_seq ?_
    refine c_region ?_
    refine l_pure S (p_move rfl) rfl rfl rfl ?_; clear S a; intro a S
    refine l_pure S (p_move rfl) rfl rfl rfl ?_; clear S a; intro a S
    refine l_pure S (p_move rfl) rfl rfl rfl ?_; clear S a; intro a S
    refine l_pure S (p_move rfl) rfl rfl rfl ?_; clear S a; intro a S
    refine l_pure S (p_lens Tryd.underlying9 rfl) rfl rfl rfl ?_; clear S a; intro a S
    refine l_pure S (p_add (r := ((i + 1 : Nat) : Int)) rfl rfl ((IntWalk.i64_in _ (by omega)).trans (by omega))) rfl rfl rfl ?_; clear S a; intro a S
    refine l_pure S (p_slice rfl (o_some rfl) (o_some rfl) (fun _ _ => o_none) (fun w => sl_strN (m := i) (m' := i + 1) Tryd.underlying9 rfl rfl (by omega) (by omega))) rfl rfl rfl ?_; clear S a; intro a S
    refine l_pure S (p_move rfl) rfl rfl rfl ?_; clear S a; intro a S
    refine l_pure S (p_seql rfl rfl) rfl rfl rfl ?_; clear S a; intro a S
    refine l_nil ?_
    refine e_then ?_
    refine c_cond S rfl (fun bc6 => ?_) (fun bc6 => ?_)
    · skip
      have c6 := bc6
      rw [one_eq (by omega) hj] at c6
      have hbe := of_decide_eq_true c6
      have hcs := cnt_ints (HHW.bt t (j : Int)) (s := s) (i := i) (by omega)
      rw [if_pos hbe] at hcs
      refine wp_seq ?_
      refine c_region ?_
      refine l_pure S (p_move rfl) rfl rfl rfl ?_; clear S a; intro a S
      refine l_pure S (p_add rfl rfl (nat_add (x := n) (y := 1) (by omega))) rfl rfl rfl ?_; clear S a; intro a S
      refine l_pure S (p_assign rfl) rfl rfl rfl ?_; clear S a; intro a S
      refine l_nil ?_
      refine e_then ?_
      refine c_region ?_
      refine l_pure S (p_move rfl) rfl rfl rfl ?_; clear S a; intro a S
      refine l_pure S (p_move rfl) rfl rfl rfl ?_; clear S a; intro a S
      refine l_pure S (p_lens Tryd.underlying9 rfl) rfl rfl rfl ?_; clear S a; intro a S
      refine l_pure S (p_add (r := ((i + 1 : Nat) : Int)) rfl rfl ((IntWalk.i64_in _ (by omega)).trans (by omega))) rfl rfl rfl ?_; clear S a; intro a S
      refine l_pure S (p_assign rfl) rfl rfl rfl ?_; clear S a; intro a S
      refine l_nil ?_
      refine e_in 3 ?_
      refine e_then ?_
      exact ⟨⟨i + 1, (n + 1)⟩, ⟨S.only ⟨rfl, rfl, rfl, rfl, trivial⟩, H, ⟨by omega, by omega⟩⟩, (show s.size - (i + 1) < s.size - i from by omega)⟩
    · skip
      have c6 := bc6
      rw [one_eq (by omega) hj] at c6
      have hbe := of_decide_eq_false c6
      have hcs := cnt_ints (HHW.bt t (j : Int)) (s := s) (i := i) (by omega)
      rw [if_neg hbe] at hcs
      refine c_region ?_
      refine l_pure S (p_move rfl) rfl rfl rfl ?_; clear S a; intro a S
      refine l_pure S (p_add rfl rfl (nat_add (x := i) (y := 1) (by omega))) rfl rfl rfl ?_; clear S a; intro a S
      refine l_pure S (p_assign rfl) rfl rfl rfl ?_; clear S a; intro a S
      refine l_nil ?_
      refine e_in 3 ?_
      refine e_then ?_
      exact ⟨⟨i + 1, n⟩, ⟨S.only ⟨rfl, rfl, rfl, rfl, trivial⟩, H, ⟨by omega, by omega⟩⟩, (show s.size - (i + 1) < s.size - i from by omega)⟩
  · skip
    have c4 := bc4
    have c4 := of_decide_eq_false c4
    refine wp_exit ?_
    refine e_then_exit ?_
    refine e_then_exit ?_
    refine e_in_exit ?_
    refine e_then ?_
    refine wp_seq ?_
    refine c_region ?_
    refine l_pure S (p_move rfl) rfl rfl rfl ?_; clear S a; intro a S
    refine l_pure S (p_assign rfl) rfl rfl rfl ?_; clear S a; intro a S
    refine l_nil ?_
    refine e_then ?_
    refine wp_ret ?_
    have hts : (ints s).take i = ints s := List.take_of_length_le (by rw [ints_len]; omega)
    rw [hts] at hn
    subst hn
    exact r_ret1 S rfl rfl ⟨rfl, H.below⟩
theorem escLen_ (wb w0 : World) (B : Nat) (L0 : List (Nat × Obj)) (ge : Nat) (f h : Nat → Nat) (t : ByteArray) (s : ByteArray) (hge : (ge, Obj.cells (escB f h t) 65 (0, 0)) ∈ L0) (ht : t.size ≤ 1000) (hs : s.size ≤ 100000) (H : HH B wb w0 L0) : Calls Tryd.prog 35 #[.pointer (some ⟨ge, 0, none⟩), .string s] w0 fun e w' => e = .returned (.int .i64 ((s.size + sumC (ints t) (ints s) : Nat) : Int)) ∧ HH B wb w' L0 := by
  refine c_enter (args := [.pointer (some ⟨ge, 0, none⟩), .string s]) (k := 29) Tryd.func35 rfl rfl rfl (fun a S => ?_)
  refine wp_seq ?_
  refine c_region ?_
  refine l_pure S (p_assign rfl) rfl rfl rfl ?_; clear S a; intro a S
  refine l_nil ?_
  refine e_then ?_
  refine wp_seq ?_
  refine c_region ?_
  refine l_pure S (p_move rfl) rfl rfl rfl ?_; clear S a; intro a S
  refine l_pure S (p_lens Tryd.underlying9 rfl) rfl rfl rfl ?_; clear S a; intro a S
  refine l_pure S (p_assign rfl) rfl rfl rfl ?_; clear S a; intro a S
  refine l_nil ?_
  refine e_then ?_
  refine wp_seq ?_
  refine wp_seq ?_
  refine c_region ?_
  refine l_pure S (p_assign rfl) rfl rfl rfl ?_; clear S a; intro a S
  refine l_nil ?_
  refine e_then ?_
  refine wp_block ?_
  refine c_loop (σ := Nat × Nat) (fun s_ a w => match s_ with | ⟨j, n⟩ => SL a 31 [] [(0, .pointer (some ⟨ge, 0, none⟩)), (1, .string s), (5, .int .i64 (n : Int)), (6, .int .i64 (j : Int))] ∧ HH (B) wb w L0 ∧ (j ≤ t.size ∧ n = s.size + sumC ((ints t).take j) (ints s))) (fun s_ => match s_ with | ⟨j, n⟩ => t.size - j) ⟨0, s.size⟩ ⟨S.only ⟨rfl, rfl, rfl, rfl, trivial⟩, H, ⟨Nat.zero_le _, rfl⟩⟩ ?_
  clear S a H; rintro ⟨j, n⟩ a w ⟨S, H, hinv⟩
  obtain ⟨hj, hn⟩ := hinv
  have hcl := sumC_le ((ints t).take j) (ints s)
  rw [List.length_take, ints_len, ints_len] at hcl
  have hcl2 : min j t.size * s.size ≤ 1000 * 100000 := Nat.mul_le_mul (by omega) hs
  refine wp_seq ?_
  refine wp_seq ?_
  refine c_region ?_
  refine l_pure S (p_move rfl) rfl rfl rfl ?_; clear S a; intro a S
  refine l_pure S (p_move rfl) rfl rfl rfl ?_; clear S a; intro a S
  refine l_pure S (p_nilCheck rfl) rfl rfl rfl ?_; clear S a; intro a S
  refine l_pure S (p_fieldAddr rfl (fun w => fa65_2 w _ _)) rfl rfl rfl ?_; clear S a; intro a S
  refine l_read S H (r_load (v := .string t) rfl hge (escB_s f h t) (fun w hc => ld1 ag9 hc)) rfl rfl rfl ?_; clear S a; intro a S
  refine l_pure S (p_lens Tryd.underlying9 rfl) rfl rfl rfl ?_; clear S a; intro a S
  refine l_pure S (p_lss rfl rfl) rfl rfl rfl ?_; clear S a; intro a S
  refine l_nil ?_
  refine e_then ?_
  refine c_cond S rfl (fun bc2 => ?_) (fun bc2 => ?_)
  · skip
    have c2 := bc2
    have c2 := of_decide_eq_true c2
    refine wp_skip ?_
    refine e_then ?_
    refine wp_seq ?_
    refine wp_block ?_
    refine c_region ?_
    refine l_pure S (p_move rfl) rfl rfl rfl ?_; clear S a; intro a S
    refine l_pure S (p_move rfl) rfl rfl rfl ?_; clear S a; intro a S
    refine l_pure S (p_move rfl) rfl rfl rfl ?_; clear S a; intro a S
    refine l_pure S (p_nilCheck rfl) rfl rfl rfl ?_; clear S a; intro a S
    refine l_pure S (p_fieldAddr rfl (fun w => fa65_2 w _ _)) rfl rfl rfl ?_; clear S a; intro a S
    refine l_read S H (r_load (v := .string t) rfl hge (escB_s f h t) (fun w hc => ld1 ag9 hc)) rfl rfl rfl ?_; clear S a; intro a S
    refine l_pure S (p_move rfl) rfl rfl rfl ?_; clear S a; intro a S
    refine l_pure S (p_move rfl) rfl rfl rfl ?_; clear S a; intro a S
    refine l_pure S (p_add rfl rfl (nat_add (x := j) (y := 1) (by omega))) rfl rfl rfl ?_; clear S a; intro a S
    refine l_pure S (p_slice rfl (o_some rfl) (o_some rfl) (fun _ _ => o_none) (fun w => sl_strN (m := j) (m' := j + 1) Tryd.underlying9 rfl rfl (by omega) (by omega))) rfl rfl rfl ?_; clear S a; intro a S
    refine l_call S rfl rfl Tryd.func58 rfl rfl (zzCount_ _ s t j (by omega) hs) rfl rfl rfl ?_
    rintro e w ⟨rfl, hb⟩
    refine ⟨_, rfl, ?_⟩; clear S a; intro a S
    replace H := H.later hb; clear hb
    have hc1 := cnt_le (HHW.bt t (j : Int)) (ints s)
    rw [ints_len] at hc1
    refine l_pure S (p_add rfl rfl (nat_add (x := n) (y := (cnt (HHW.bt t (j : Int)) (ints s))) (by omega))) rfl rfl rfl ?_; clear S a; intro a S
    refine l_pure S (p_assign rfl) rfl rfl rfl ?_; clear S a; intro a S
    refine l_nil ?_
    refine e_in 1 ?_
    refine e_then ?_
    refine c_region ?_
    refine l_pure S (p_move rfl) rfl rfl rfl ?_; clear S a; intro a S
    refine l_pure S (p_add rfl rfl (nat_add (x := j) (y := 1) (by omega))) rfl rfl rfl ?_; clear S a; intro a S
    refine l_pure S (p_assign rfl) rfl rfl rfl ?_; clear S a; intro a S
    refine l_nil ?_
    refine e_then ?_
    exact ⟨⟨j + 1, (n + (cnt (HHW.bt t (j : Int)) (ints s)))⟩, ⟨S.only ⟨rfl, rfl, rfl, rfl, trivial⟩, H, ⟨by omega, by rw [take_ints (by omega), sumC_snoc]; omega⟩⟩, (show t.size - (j + 1) < t.size - j from by omega)⟩
  · skip
    have c2 := bc2
    have c2 := of_decide_eq_false c2
    refine wp_exit ?_
    refine e_then_exit ?_
    refine e_then_exit ?_
    refine e_in_exit ?_
    refine e_then ?_
    refine wp_seq ?_
    refine c_region ?_
    refine l_pure S (p_move rfl) rfl rfl rfl ?_; clear S a; intro a S
    refine l_pure S (p_assign rfl) rfl rfl rfl ?_; clear S a; intro a S
    refine l_nil ?_
    refine e_then ?_
    refine wp_ret ?_
    have hts : (ints t).take j = ints t := List.take_of_length_le (by rw [ints_len]; omega)
    rw [hts] at hn
    subst hn
    exact r_ret1 S rfl rfl ⟨rfl, H⟩
theorem escInto_ (wb w0 : World) (B : Nat) (L0 : List (Nat × Obj)) (ge : Nat) (f h : Nat → Nat) (t : ByteArray) (s : ByteArray) (hge : (ge, Obj.cells (escB f h t) 65 (0, 0)) ∈ L0) (gb cb : Nat) (cs : Array Value) (fb : Nat × Nat) (hth : Thaw cs fb) (hsz : (escd f (ints s)).length ≤ cs.size) (hbig : (escd f (ints s)).length ≤ 1000000000) (hs : s.size ≤ 100000) (H : HH B wb w0 ((gb, .cells cs 5 fb) :: L0)) : Calls Tryd.prog 36 #[.pointer (some ⟨ge, 0, none⟩), .slice (some ⟨gb, 0, none⟩) (escd f (ints s)).length cb, .string s] w0 fun e w' => e = .returned (.tuple #[]) ∧ ∃ cs', HH B wb w' ((gb, .cells cs' 5 fb) :: L0) ∧ cs'.size = cs.size ∧ Thaw cs' fb ∧ bf.Row cs' 0 (escd f (ints s)) := by
  refine c_enter (args := [.pointer (some ⟨ge, 0, none⟩), .slice (some ⟨gb, 0, none⟩) (escd f (ints s)).length cb, .string s]) (k := 40) Tryd.func36 rfl rfl rfl (fun a S => ?_)
  refine wp_seq ?_
  refine c_region ?_
  refine l_pure S (p_assign rfl) rfl rfl rfl ?_; clear S a; intro a S
  refine l_nil ?_
  refine e_then ?_
  refine wp_seq ?_
  refine c_region ?_
  refine l_pure S (p_assign rfl) rfl rfl rfl ?_; clear S a; intro a S
  refine l_nil ?_
  refine e_then ?_
  refine wp_block ?_
  refine c_loop (σ := Nat × Array Value) (fun s_ a w => match s_ with | ⟨i, cs1⟩ => SL a 43 [] [(0, .pointer (some ⟨ge, 0, none⟩)), (1, .slice (some ⟨gb, 0, none⟩) (escd f (ints s)).length cb), (2, .string s), (6, .int .i64 ((escd f ((ints s).take i)).length : Int)), (7, .int .i64 (i : Int))] ∧ HH (B) wb w ((gb, .cells cs1 5 fb) :: L0) ∧ (i ≤ s.size ∧ cs1.size = cs.size ∧ Thaw cs1 fb ∧ bf.Row cs1 0 (escd f ((ints s).take i)))) (fun s_ => match s_ with | ⟨i, cs1⟩ => s.size - i) ⟨0, cs⟩ ⟨S.only ⟨rfl, rfl, rfl, rfl, rfl, trivial⟩, H, ⟨Nat.zero_le _, rfl, hth, fun _ _ h => by simp [escd] at h⟩⟩ ?_
  clear S a H; rintro ⟨i, cs1⟩ a w ⟨S, H, hinv⟩
  obtain ⟨hi0, hcs1, hth1, hrow⟩ := hinv
  have htk := escd_take f (ints s) (i + 1)
  have htk0 := escd_take f (ints s) i
  refine wp_seq ?_
  refine wp_seq ?_
  refine c_region ?_
  refine l_pure S (p_move rfl) rfl rfl rfl ?_; clear S a; intro a S
  refine l_pure S (p_move rfl) rfl rfl rfl ?_; clear S a; intro a S
  refine l_pure S (p_lens Tryd.underlying9 rfl) rfl rfl rfl ?_; clear S a; intro a S
  refine l_pure S (p_lss rfl rfl) rfl rfl rfl ?_; clear S a; intro a S
  refine l_nil ?_
  refine e_then ?_
  refine c_cond S rfl (fun bc2 => ?_) (fun bc2 => ?_)
  · skip
    have c2 := bc2
    have c2 := of_decide_eq_true c2
    refine wp_skip ?_
    refine e_then ?_
    refine wp_seq ?_
    refine wp_block ?_
    refine wp_seq ?_
    refine c_region ?_
    refine l_pure S (p_move rfl) rfl rfl rfl ?_; clear S a; intro a S
    refine l_pure S (p_move rfl) rfl rfl rfl ?_; clear S a; intro a S
    refine l_pure S (p_index rfl rfl (fun w => ix_string Tryd.underlying9 (by omega) (by omega))) rfl rfl rfl ?_; clear S a; intro a S
    have hbr := HHW.bt_range s (i : Int)
    obtain ⟨b, hb, hbl⟩ : ∃ b : Nat, HHW.bt s (i : Int) = (b : Int) ∧ b < 256 := ⟨(HHW.bt s (i : Int)).toNat, by omega, by omega⟩
    have hsn := escd_snoc f ((ints s).take i) (HHW.bt s (i : Int))
    rw [← take_ints (by omega), hb, Int.toNat_natCast] at hsn
    rw [hb] at S
    refine l_pure S (p_assign rfl) rfl rfl rfl ?_; clear S a; intro a S
    refine l_nil ?_
    refine e_then ?_
    refine wp_seq ?_
    refine c_region ?_
    refine l_pure S (p_move rfl) rfl rfl rfl ?_; clear S a; intro a S
    refine l_pure S (p_move rfl) rfl rfl rfl ?_; clear S a; intro a S
    refine l_pure S (p_nilCheck rfl) rfl rfl rfl ?_; clear S a; intro a S
    refine l_pure S (p_fieldAddr rfl (fun w => fa65_0 w _ _)) rfl rfl rfl ?_; clear S a; intro a S
    refine l_pure S (p_indexAddr rfl rfl (fun w => ia_array Tryd.underlying63 sz5 (by omega) (by omega))) rfl rfl rfl ?_; clear S a; intro a S
    refine l_read S H (r_load (v := .int .u8 (f b : Int)) rfl (List.mem_cons_of_mem _ hge) (by rw [show 0 + ((b : Nat) : Int).toNat * 1 = b by omega]; exact escB_f f h t hbl) (fun w hc => ld1 ag5 hc)) rfl rfl rfl ?_; clear S a; intro a S
    refine l_pure S (p_assign rfl) rfl rfl rfl ?_; clear S a; intro a S
    refine l_nil ?_
    refine e_then ?_
    refine wp_seq ?_
    refine c_region ?_
    refine l_pure S (p_move rfl) rfl rfl rfl ?_; clear S a; intro a S
    refine l_pure S (p_neq rfl rfl) rfl rfl rfl ?_; clear S a; intro a S
    refine l_nil ?_
    refine e_then ?_
    refine c_cond S rfl (fun bc4 => ?_) (fun bc4 => ?_)
    · skip
      have c4 := bc4
      have c4 := bne_iff_ne.1 c4
      rw [if_neg (by omega)] at hsn
      have hln : (escd f ((ints s).take (i + 1))).length = (escd f ((ints s).take i)).length + 2 := by rw [hsn, List.length_append]; rfl
      refine wp_seq ?_
      refine c_region ?_
      refine l_pure S (p_move rfl) rfl rfl rfl ?_; clear S a; intro a S
      refine l_pure S (p_move rfl) rfl rfl rfl ?_; clear S a; intro a S
      refine l_pure S (p_indexAddr rfl rfl (fun w => ia_slice Tryd.underlying32 sz5 (by omega) (by omega))) rfl rfl rfl ?_; clear S a; intro a S
      refine l_storeT S H rfl rfl rfl hth1 .here (by omega) (fun w u hc hz => st1 sz5 rfl hc hz) rfl rfl ?_; clear S a H; intro w a H S
      rw [show 0 + (((escd f ((ints s).take i)).length : Nat) : Int).toNat * 1 = (escd f ((ints s).take i)).length by omega] at H
      have hrow2 := row_snoc (v := 92) hrow (by omega)
      have hth2 := Thaw.set (j := (escd f ((ints s).take i)).length) (v := .int .u8 92) hth1
      have hcs2 : (cs1.setIfInBounds (escd f ((ints s).take i)).length (.int .u8 92)).size = cs.size := by rw [Array.size_setIfInBounds]; exact hcs1
      refine l_nil ?_
      refine e_then ?_
      refine wp_seq ?_
      refine c_region ?_
      refine l_pure S (p_move rfl) rfl rfl rfl ?_; clear S a; intro a S
      refine l_pure S (p_move rfl) rfl rfl rfl ?_; clear S a; intro a S
      refine l_pure S (p_add rfl rfl (nat_add (x := ((escd f ((ints s).take i)).length)) (y := 1) (by omega))) rfl rfl rfl ?_; clear S a; intro a S
      refine l_pure S (p_move rfl) rfl rfl rfl ?_; clear S a; intro a S
      refine l_pure S (p_indexAddr rfl rfl (fun w => ia_slice Tryd.underlying32 sz5 (by omega) (by omega))) rfl rfl rfl ?_; clear S a; intro a S
      refine l_storeT S H rfl rfl rfl hth2 .here (by omega) (fun w u hc hz => st1 sz5 rfl hc hz) rfl rfl ?_; clear S a H; intro w a H S
      rw [show 0 + ((((escd f ((ints s).take i)).length + 1) : Nat) : Int).toNat * 1 = ((escd f ((ints s).take i)).length + 1) by omega] at H
      have hrow3 := row_snoc (v := (f b : Int)) hrow2 (by rw [List.length_append]; simp only [List.length_cons, List.length_nil]; omega)
      rw [List.length_append, List.append_assoc] at hrow3
      rw [show escd f ((ints s).take i) ++ ([92] ++ [(f b : Int)]) = escd f ((ints s).take (i + 1)) from hsn.symm] at hrow3
      refine l_nil ?_
      refine e_then ?_
      refine c_region ?_
      refine l_pure S (p_move rfl) rfl rfl rfl ?_; clear S a; intro a S
      refine l_pure S (p_add (r := (((escd f ((ints s).take (i + 1))).length : Nat) : Int)) rfl rfl ((IntWalk.i64_in _ (by omega)).trans (by omega))) rfl rfl rfl ?_; clear S a; intro a S
      refine l_pure S (p_assign rfl) rfl rfl rfl ?_; clear S a; intro a S
      refine l_nil ?_
      refine e_in 1 ?_
      refine e_then ?_
      refine c_region ?_
      refine l_pure S (p_move rfl) rfl rfl rfl ?_; clear S a; intro a S
      refine l_pure S (p_add rfl rfl (nat_add (x := i) (y := 1) (by omega))) rfl rfl rfl ?_; clear S a; intro a S
      refine l_pure S (p_assign rfl) rfl rfl rfl ?_; clear S a; intro a S
      refine l_nil ?_
      refine e_then ?_
      exact ⟨⟨i + 1, _⟩, ⟨S.only ⟨rfl, rfl, rfl, rfl, rfl, trivial⟩, H, ⟨by omega, by rw [Array.size_setIfInBounds]; exact hcs2, Thaw.set hth2, hrow3⟩⟩, (show s.size - (i + 1) < s.size - i from by omega)⟩
    · skip
      have c4 := bc4
      have c4 := bne_eq_false_iff_eq.1 c4
      rw [if_pos (by omega)] at hsn
      have hln : (escd f ((ints s).take (i + 1))).length = (escd f ((ints s).take i)).length + 1 := by rw [hsn, List.length_append]; rfl
      refine wp_seq ?_
      refine c_region ?_
      refine l_pure S (p_move rfl) rfl rfl rfl ?_; clear S a; intro a S
      refine l_pure S (p_move rfl) rfl rfl rfl ?_; clear S a; intro a S
      refine l_pure S (p_move rfl) rfl rfl rfl ?_; clear S a; intro a S
      refine l_pure S (p_indexAddr rfl rfl (fun w => ia_slice Tryd.underlying32 sz5 (by omega) (by omega))) rfl rfl rfl ?_; clear S a; intro a S
      refine l_storeT S H rfl rfl rfl hth1 .here (by omega) (fun w u hc hz => st1 sz5 rfl hc hz) rfl rfl ?_; clear S a H; intro w a H S
      rw [show 0 + (((escd f ((ints s).take i)).length : Nat) : Int).toNat * 1 = (escd f ((ints s).take i)).length by omega] at H
      have hrow2 := row_snoc (v := (b : Int)) hrow (by omega)
      rw [show escd f ((ints s).take i) ++ [(b : Int)] = escd f ((ints s).take (i + 1)) from hsn.symm] at hrow2
      refine l_nil ?_
      refine e_then ?_
      refine c_region ?_
      refine l_pure S (p_move rfl) rfl rfl rfl ?_; clear S a; intro a S
      refine l_pure S (p_add (r := (((escd f ((ints s).take (i + 1))).length : Nat) : Int)) rfl rfl ((IntWalk.i64_in _ (by omega)).trans (by omega))) rfl rfl rfl ?_; clear S a; intro a S
      refine l_pure S (p_assign rfl) rfl rfl rfl ?_; clear S a; intro a S
      refine l_nil ?_
      refine e_in 1 ?_
      refine e_then ?_
      refine c_region ?_
      refine l_pure S (p_move rfl) rfl rfl rfl ?_; clear S a; intro a S
      refine l_pure S (p_add rfl rfl (nat_add (x := i) (y := 1) (by omega))) rfl rfl rfl ?_; clear S a; intro a S
      refine l_pure S (p_assign rfl) rfl rfl rfl ?_; clear S a; intro a S
      refine l_nil ?_
      refine e_then ?_
      exact ⟨⟨i + 1, _⟩, ⟨S.only ⟨rfl, rfl, rfl, rfl, rfl, trivial⟩, H, ⟨by omega, by rw [Array.size_setIfInBounds]; exact hcs1, Thaw.set hth1, hrow2⟩⟩, (show s.size - (i + 1) < s.size - i from by omega)⟩
  · skip
    have c2 := bc2
    have c2 := of_decide_eq_false c2
    refine wp_exit ?_
    refine e_then_exit ?_
    refine e_then_exit ?_
    refine e_in_exit ?_
    have hts : (ints s).take i = ints s := List.take_of_length_le (by rw [ints_len]; omega)
    rw [hts] at hrow
    exact r_end0 S rfl ⟨rfl, cs1, H, hcs1, hth1, hrow⟩
theorem appEsc_ (wb w0 : World) (B : Nat) (L0 : List (Nat × Obj)) (ge : Nat) (f h : Nat → Nat) (t : ByteArray) (s : ByteArray) (hge : (ge, Obj.cells (escB f h t) 65 (0, 0)) ∈ L0) (ht : t.size ≤ 1000) (hs : s.size ≤ 100000) (E : List (Nat × Obj)) (A : Option Addr) (c : Nat) (hOw : OwnB 5 (.slice A ([] : List Int).length c) [] E) (hcb : c ≤ 9223372036854775807) (hf : ∀ b, b < 256 → (if f b = 0 then 0 else 1) = sumC (ints t) [(b : Int)]) (H : HH B wb w0 (E ++ L0)) : Calls Tryd.prog 24 #[.pointer (some ⟨ge, 0, none⟩), .slice A 0 c, .string s] w0 fun e w' => ∃ A' c' E', e = .returned (.slice A' (escd f (ints s)).length c') ∧ OwnB 5 (.slice A' (escd f (ints s)).length c') (escd f (ints s)) E' ∧ HH B wb w' (E' ++ L0) := by
  have hby : ∀ x ∈ ints s, 0 ≤ x ∧ x < 256 := by have := ints_by s 0; rwa [List.drop_zero] at this
  have hlen := escd_len hf (ints s) hby
  rw [ints_len] at hlen
  have hcl := sumC_le (ints t) (ints s)
  rw [ints_len, ints_len] at hcl
  have hcl2 : t.size * s.size ≤ 1000 * 100000 := Nat.mul_le_mul ht hs
  have hil := ints_len s
  refine c_enter (args := [.pointer (some ⟨ge, 0, none⟩), .slice A 0 c, .string s]) (k := 51) Tryd.func24 rfl rfl rfl (fun a S => ?_)
  refine wp_seq ?_
  refine c_region ?_
  refine l_pure S (p_assign rfl) rfl rfl rfl ?_; clear S a; intro a S
  refine l_nil ?_
  refine e_then ?_
  refine wp_seq ?_
  refine c_region ?_
  refine l_pure S (p_move rfl) rfl rfl rfl ?_; clear S a; intro a S
  refine l_pure S (p_move rfl) rfl rfl rfl ?_; clear S a; intro a S
  have hcon := escLen_ wb _ B (E ++ L0) ge f h t s (List.mem_append_right _ hge) ht hs H
  refine l_call S rfl rfl Tryd.func35 rfl rfl (hcon) rfl rfl rfl ?_
  rintro e w ⟨rfl, hH⟩
  refine ⟨_, rfl, ?_⟩; clear S a; intro a S
  clear H hcon; have H := hH; clear hH
  rw [← hlen] at S
  refine l_pure S (p_assign rfl) rfl rfl rfl ?_; clear S a; intro a S
  refine l_nil ?_
  refine e_then ?_
  refine wp_seq ?_
  refine wp_seq ?_
  refine c_region ?_
  refine l_pure S (p_move rfl) rfl rfl rfl ?_; clear S a; intro a S
  refine l_pure S (p_move rfl) rfl rfl rfl ?_; clear S a; intro a S
  refine l_pure S (p_lens Tryd.underlying9 rfl) rfl rfl rfl ?_; clear S a; intro a S
  refine l_pure S (p_eql rfl rfl) rfl rfl rfl ?_; clear S a; intro a S
  refine l_nil ?_
  refine e_then ?_
  refine c_cond S rfl (fun bc2 => ?_) (fun bc2 => ?_)
  · skip
    have c2 := bc2
    have c2 := eq_of_beq c2
    have hsame := escd_same hf (ints s) hby (by omega)
    refine wp_seq ?_
    refine c_region ?_
    refine l_pure S (p_move rfl) rfl rfl rfl ?_; clear S a; intro a S
    refine l_pure S (p_move rfl) rfl rfl rfl ?_; clear S a; intro a S
    refine l_ownB [] (r := (ints s)) S H rfl rfl rfl hOw (src_str Tryd.underlying9 s) Tryd.underlying32 in5 rfl (by rw [ints_len]; simp only [List.length_nil]; omega) (by decide) rfl rfl rfl ?_; clear S a H; intro Aow3 cow3 ow3 w a how3 H S
    refine l_pure S (p_assign rfl) rfl rfl rfl ?_; clear S a; intro a S
    refine l_nil ?_
    refine e_then ?_
    refine wp_ret ?_
    refine e_then_ret ?_
    rw [List.nil_append, ← hsame] at S how3
    exact r_ret1 S rfl rfl ⟨_, _, ow3, rfl, how3, H⟩
  · skip
    have c2 := bc2
    have c2 := ne_of_beq_false c2
    refine wp_skip ?_
    refine e_then ?_
    refine wp_seq ?_
    refine wp_seq ?_
    refine c_region ?_
    refine l_pure S (p_move rfl) rfl rfl rfl ?_; clear S a; intro a S
    refine l_pure S (p_cap Tryd.underlying32 rfl) rfl rfl rfl ?_; clear S a; intro a S
    refine l_pure S (p_move rfl) rfl rfl rfl ?_; clear S a; intro a S
    refine l_pure S (p_len Tryd.underlying32 rfl) rfl rfl rfl ?_; clear S a; intro a S
    refine l_pure S (p_sub rfl rfl (nat_sub (x := c) (y := 0) (by omega) (by omega))) rfl rfl rfl ?_; clear S a; intro a S
    refine l_pure S (p_move rfl) rfl rfl rfl ?_; clear S a; intro a S
    refine l_pure S (p_lss rfl rfl) rfl rfl rfl ?_; clear S a; intro a S
    refine l_nil ?_
    refine e_then ?_
    refine c_cond S rfl (fun bc5 => ?_) (fun bc5 => ?_)
    · skip
      have c5 := bc5
      have c5 := of_decide_eq_true c5
      refine wp_seq ?_
      refine c_region ?_
      refine l_pure S (p_move rfl) rfl rfl rfl ?_; clear S a; intro a S
      refine l_pure S (p_len Tryd.underlying32 rfl) rfl rfl rfl ?_; clear S a; intro a S
      refine l_pure S (p_move rfl) rfl rfl rfl ?_; clear S a; intro a S
      refine l_pure S (p_len Tryd.underlying32 rfl) rfl rfl rfl ?_; clear S a; intro a S
      refine l_pure S (p_move rfl) rfl rfl rfl ?_; clear S a; intro a S
      refine l_pure S (p_add rfl rfl (nat_add (x := 0) (y := ((escd f (ints s)).length)) (by omega))) rfl rfl rfl ?_; clear S a; intro a S
      refine l_make (l := 0) (c := 0 + (escd f (ints s)).length) S H rfl rfl rfl Tryd.underlying32 in5 (by omega) (by omega) (by omega) rfl rfl rfl ?_; clear S a H; intro gm cse w a hcse H S
      refine l_pure S (p_assign rfl) rfl rfl rfl ?_; clear S a; intro a S
      refine l_nil ?_
      refine e_then ?_
      refine wp_seq ?_
      refine c_region ?_
      refine l_pure S (p_move rfl) rfl rfl rfl ?_; clear S a; intro a S
      refine l_pure S (p_move rfl) rfl rfl rfl ?_; clear S a; intro a S
      refine l_copy (k := 0) S H rfl rfl rfl Tryd.underlying32 sz5 (first0 A c) (by omega) rfl .here rfl rfl rfl ?_; clear S a H; intro w a H S
      refine l_nil ?_
      refine e_then ?_
      refine c_region ?_
      refine l_pure S (p_move rfl) rfl rfl rfl ?_; clear S a; intro a S
      refine l_pure S (p_assign rfl) rfl rfl rfl ?_; clear S a; intro a S
      refine l_nil ?_
      refine e_then ?_
      refine wp_seq ?_
      refine c_region ?_
      refine l_pure S (p_move rfl) rfl rfl rfl ?_; clear S a; intro a S
      refine l_pure S (p_move rfl) rfl rfl rfl ?_; clear S a; intro a S
      refine l_pure S (p_move rfl) rfl rfl rfl ?_; clear S a; intro a S
      refine l_pure S (p_len Tryd.underlying32 rfl) rfl rfl rfl ?_; clear S a; intro a S
      refine l_pure S (p_move rfl) rfl rfl rfl ?_; clear S a; intro a S
      refine l_pure S (p_len Tryd.underlying32 rfl) rfl rfl rfl ?_; clear S a; intro a S
      refine l_pure S (p_move rfl) rfl rfl rfl ?_; clear S a; intro a S
      refine l_pure S (p_add rfl rfl (nat_add (x := 0) (y := ((escd f (ints s)).length)) (by omega))) rfl rfl rfl ?_; clear S a; intro a S
      refine l_pure S (p_slice rfl (o_some rfl) (o_some rfl) (fun _ _ => o_none) (fun w => sl_zero (h := 0 + (escd f (ints s)).length) Tryd.underlying32 sz5 rfl rfl (by omega))) rfl rfl rfl ?_; clear S a; intro a S
      rw [Nat.zero_add] at S
      refine l_pure S (p_move rfl) rfl rfl rfl ?_; clear S a; intro a S
      have hcon := escInto_ wb _ B (E ++ L0) ge f h t s (List.mem_append_right _ hge) gm (escd f (ints s)).length _ (0, 0) (thaw0 _) (by rw [spl_size]; omega) (by omega) hs H
      refine l_call S rfl rfl Tryd.func36 rfl rfl (hcon) rfl rfl rfl ?_
      rintro e w ⟨rfl, cs2, hH, hcs2, hth2, hrow2⟩
      refine ⟨_, rfl, ?_⟩; clear S a; intro a S
      clear H hcon; have H := hH; clear hH
      refine l_nil ?_
      refine e_then ?_
      refine wp_seq ?_
      refine c_region ?_
      refine l_pure S (p_move rfl) rfl rfl rfl ?_; clear S a; intro a S
      refine l_pure S (p_move rfl) rfl rfl rfl ?_; clear S a; intro a S
      refine l_pure S (p_len Tryd.underlying32 rfl) rfl rfl rfl ?_; clear S a; intro a S
      refine l_pure S (p_move rfl) rfl rfl rfl ?_; clear S a; intro a S
      refine l_pure S (p_add rfl rfl (nat_add (x := 0) (y := ((escd f (ints s)).length)) (by omega))) rfl rfl rfl ?_; clear S a; intro a S
      refine l_pure S (p_slice rfl (fun _ _ => o_none) (o_some rfl) (fun _ _ => o_none) (fun w => sl_hi (m := 0 + (escd f (ints s)).length) Tryd.underlying32 sz5 rfl (by omega))) rfl rfl rfl ?_; clear S a; intro a S
      rw [Nat.zero_add] at S
      refine l_pure S (p_assign rfl) rfl rfl rfl ?_; clear S a; intro a S
      refine l_nil ?_
      refine e_then ?_
      refine wp_ret ?_
      exact r_ret1 S rfl rfl ⟨_, _, [(gm, _)], rfl, own_rowE (Nat.le_refl _) (by rw [hcs2, spl_size]; omega) hth2 hrow2, H.sub (.cons_cons _ (List.sublist_append_right _ _))⟩
    · skip
      have c5 := bc5
      have c5 := of_decide_eq_false c5
      obtain ⟨gb, cs, fb, rfl, rfl, hcs, hth⟩ := own_open0 hOw (by omega)
      replace H : HH B wb _ ((gb, .cells cs 5 fb) :: L0) := H
      refine wp_skip ?_
      refine e_then ?_
      refine wp_seq ?_
      refine c_region ?_
      refine l_pure S (p_move rfl) rfl rfl rfl ?_; clear S a; intro a S
      refine l_pure S (p_move rfl) rfl rfl rfl ?_; clear S a; intro a S
      refine l_pure S (p_move rfl) rfl rfl rfl ?_; clear S a; intro a S
      refine l_pure S (p_len Tryd.underlying32 rfl) rfl rfl rfl ?_; clear S a; intro a S
      refine l_pure S (p_move rfl) rfl rfl rfl ?_; clear S a; intro a S
      refine l_pure S (p_len Tryd.underlying32 rfl) rfl rfl rfl ?_; clear S a; intro a S
      refine l_pure S (p_move rfl) rfl rfl rfl ?_; clear S a; intro a S
      refine l_pure S (p_add rfl rfl (nat_add (x := 0) (y := ((escd f (ints s)).length)) (by omega))) rfl rfl rfl ?_; clear S a; intro a S
      refine l_pure S (p_slice rfl (o_some rfl) (o_some rfl) (fun _ _ => o_none) (fun w => sl_zero (h := 0 + (escd f (ints s)).length) Tryd.underlying32 sz5 rfl rfl (by omega))) rfl rfl rfl ?_; clear S a; intro a S
      rw [Nat.zero_add] at S
      refine l_pure S (p_move rfl) rfl rfl rfl ?_; clear S a; intro a S
      have hcon := escInto_ wb _ B L0 ge f h t s hge gb c cs fb hth (by omega) (by omega) hs H
      refine l_call S rfl rfl Tryd.func36 rfl rfl (hcon) rfl rfl rfl ?_
      rintro e w ⟨rfl, cs2, hH, hcs2, hth2, hrow2⟩
      refine ⟨_, rfl, ?_⟩; clear S a; intro a S
      clear H hcon; have H := hH; clear hH
      refine l_nil ?_
      refine e_then ?_
      refine wp_seq ?_
      refine c_region ?_
      refine l_pure S (p_move rfl) rfl rfl rfl ?_; clear S a; intro a S
      refine l_pure S (p_move rfl) rfl rfl rfl ?_; clear S a; intro a S
      refine l_pure S (p_len Tryd.underlying32 rfl) rfl rfl rfl ?_; clear S a; intro a S
      refine l_pure S (p_move rfl) rfl rfl rfl ?_; clear S a; intro a S
      refine l_pure S (p_add rfl rfl (nat_add (x := 0) (y := ((escd f (ints s)).length)) (by omega))) rfl rfl rfl ?_; clear S a; intro a S
      refine l_pure S (p_slice rfl (fun _ _ => o_none) (o_some rfl) (fun _ _ => o_none) (fun w => sl_hi (m := 0 + (escd f (ints s)).length) Tryd.underlying32 sz5 rfl (by omega))) rfl rfl rfl ?_; clear S a; intro a S
      rw [Nat.zero_add] at S
      refine l_pure S (p_assign rfl) rfl rfl rfl ?_; clear S a; intro a S
      refine l_nil ?_
      refine e_then ?_
      refine wp_ret ?_
      exact r_ret1 S rfl rfl ⟨_, _, [(gb, _)], rfl, own_rowE (by omega) (by omega) hth2 hrow2, H⟩
theorem doorEsc_ (wb w0 : World) (B : Nat) (L0 : List (Nat × Obj)) (k : Nat) (hk : k < 5) (s : ByteArray) (hs : s.size ≤ 100000) (E : List (Nat × Obj)) (A : Option Addr) (c : Nat) (hOw : OwnB 5 (.slice A ([] : List Int).length c) [] E) (hcb : c ≤ 9223372036854775807) (H : HH B wb w0 (E ++ L0)) : Calls Tryd.prog 16 #[.int .i64 (k : Int), .slice A 0 c, .string s] w0 fun e w' => ∃ A' c' E', e = .returned (.slice A' (escd (tabF (ints (escS k))) (ints s)).length c') ∧ OwnB 5 (.slice A' (escd (tabF (ints (escS k))) (ints s)).length c') (escd (tabF (ints (escS k))) (ints s)) E' ∧ HH B wb w' (E' ++ L0) := by
  have hkz : (escS k).size ≤ 1000 := by
    rcases (show k = 0 ∨ k = 1 ∨ k = 2 ∨ k = 3 ∨ k = 4 by omega) with rfl | rfl | rfl | rfl | rfl <;> decide
  refine c_enter (args := [.int .i64 (k : Int), .slice A 0 c, .string s]) (k := 9) Tryd.func16 rfl rfl rfl (fun a S => ?_)
  refine wp_seq ?_
  refine c_region ?_
  refine l_pure S (p_assign rfl) rfl rfl rfl ?_; clear S a; intro a S
  refine l_nil ?_
  refine e_then ?_
  refine wp_seq ?_
  refine c_region ?_
  refine l_pure S (p_move rfl) rfl rfl rfl ?_; clear S a; intro a S
  have hcon := gb.escaper_ wb _ B (E ++ L0) k hk H
  refine l_call S rfl rfl Tryd.func23 rfl rfl (hcon) rfl rfl rfl ?_
  rintro e w ⟨q, rfl, hH⟩
  refine ⟨_, rfl, ?_⟩; clear S a; intro a S
  clear H hcon; have H := hH; clear hH
  refine l_pure S (p_move rfl) rfl rfl rfl ?_; clear S a; intro a S
  refine l_pure S (p_move rfl) rfl rfl rfl ?_; clear S a; intro a S
  have hcon := appEsc_ wb _ B ((q, _) :: L0) q (tabF (ints (escS k))) (tabH (ints (escS k))) (escS k) s List.mem_cons_self hkz hs E A c hOw hcb (tab_sum k hk) (H.mid)
  refine l_call S rfl rfl Tryd.func24 rfl rfl (hcon) rfl rfl rfl ?_
  rintro e w ⟨A1, c1, E1, rfl, hOw1, hH⟩
  refine ⟨_, rfl, ?_⟩; clear S a; intro a S
  clear H hcon; have H := hH; clear hH
  refine l_pure S (p_assign rfl) rfl rfl rfl ?_; clear S a; intro a S
  refine l_nil ?_
  refine e_then ?_
  refine wp_ret ?_
  exact r_ret1 S rfl rfl ⟨_, _, E1, rfl, hOw1, H.sub (List.Sublist.append_left (List.sublist_cons_self _ _) _)⟩
theorem escape_ (wb w0 : World) (B : Nat) (L0 : List (Nat × Obj)) (k : Nat) (hk : k < 5) (s : ByteArray) (hs : s.size ≤ 100000) (H : HH B wb w0 L0) : Calls Tryd.prog 9 #[.int .i64 (k : Int), .string ⟨#[]⟩, .string s] w0 fun e w' => e = .returned (.string (strOfNums (escd (tabF (ints (escS k))) (ints s)))) ∧ HH B wb w' L0 := by
  have hby : ∀ x ∈ ints s, 0 ≤ x ∧ x < 256 := by have := ints_by s 0; rwa [List.drop_zero] at this
  have hlen := escd_len (tab_sum k hk) (ints s) hby
  rw [ints_len] at hlen
  have hcl := sumC_le (ints (escS k)) (ints s)
  rw [ints_len, ints_len] at hcl
  have hkz : (escS k).size ≤ 1000 := by
    rcases (show k = 0 ∨ k = 1 ∨ k = 2 ∨ k = 3 ∨ k = 4 by omega) with rfl | rfl | rfl | rfl | rfl <;> decide
  have hcl2 : (escS k).size * s.size ≤ 1000 * 100000 := Nat.mul_le_mul hkz hs
  refine c_enter (args := [.int .i64 (k : Int), .string ⟨#[]⟩, .string s]) (k := 10) Tryd.func9 rfl rfl rfl (fun a S => ?_)
  refine wp_seq ?_
  refine c_region ?_
  refine l_pure S (p_assign rfl) rfl rfl rfl ?_; clear S a; intro a S
  refine l_nil ?_
  refine e_then ?_
  refine wp_seq ?_
  refine c_region ?_
  refine l_pure S (p_move rfl) rfl rfl rfl ?_; clear S a; intro a S
  refine l_pure S (p_move rfl) rfl rfl rfl ?_; clear S a; intro a S
  refine l_bytesC (s := ⟨#[]⟩) S H rfl rfl Tryd.underlying9 Tryd.underlying32 Tryd.underlying5 rfl rfl rfl (by decide) ?_; clear S a H; intro A0 c0 E0 w a hcb hOw H S
  refine l_pure S (p_move rfl) rfl rfl rfl ?_; clear S a; intro a S
  have hcon := doorEsc_ wb _ B L0 k hk s hs E0 A0 c0 hOw hcb H
  refine l_call S rfl rfl Tryd.func16 rfl rfl (hcon) rfl rfl rfl ?_
  rintro e w ⟨A1, c1, E1, rfl, hOw1, hH⟩
  refine ⟨_, rfl, ?_⟩; clear S a; intro a S
  clear H hcon; have H := hH; clear hH
  refine l_str S rfl rfl Tryd.underlying32 Tryd.underlying5 Tryd.underlying9 (Own.bytes hOw1 H (by omega)) rfl rfl rfl ?_; clear S a; intro a S
  refine l_pure S (p_assign rfl) rfl rfl rfl ?_; clear S a; intro a S
  refine l_nil ?_
  refine e_then ?_
  refine wp_ret ?_
  exact r_ret1 S rfl rfl ⟨rfl, H.bring⟩
end gc
end Go.Proofs.YtbahngfpadjbhaaDoor.dec
