/- FnClusterSlot: the walk. -/
import Derived.Test.YtcjdadfiedoflaaSlotp
import Derived.WalkKit
namespace Go.Proofs.Ytcjdadfiedoflaa.slot
open Go.RowKit Go.Proofs.HHW Go.Proofs.YtcjdadfiedoflaaW.PrintWords PFnClusterSlot
set_option linter.unusedVariables false
set_option linter.unusedSimpArgs false
theorem ag5 : aggB Try.prog 5 = some false := by kernel_rfl
theorem ag53 : aggB Try.prog 53 = some false := by kernel_rfl
theorem sz5 : szB Try.prog 5 = some 1 := by kernel_rfl
theorem sz53 : szB Try.prog 53 = some 1 := by kernel_rfl
set_option maxRecDepth 100000 in
set_option maxHeartbeats 1000000 in
theorem index (x : Int) (l : List Int) (g o c : Nat) (w0 : World) (hr : RB w0 g o l) : Calls Try.prog 53 #[.slice (some ⟨g, o, none⟩) l.length c, .int .u8 x] w0 fun e w' => e = .returned (.int .i64 (slotp.ix l x)) ∧ w' = w0 := by
  go_enter Try.func53, Try.ntmps53
  go_wp2
  rw [run_callFunc_extern Try.func55 (by kernel_rfl) (by kernel_rfl) (by kernel_rfl) (e := Extern.BytealgIndexByte.indexByte) (by kernel_rfl), Lib.run_indexByteSlice w0 g o l.length c l rfl (fun i hi => hr i _ (get_some 0 hi)) x]
  simp only [Result.andThen]
  rw [Oper.upon_value]
  go_wp2
  go_ret
  exact ⟨rfl, rfl⟩
theorem zv76 : zvB Try.prog 76 = some (.agg (Array.replicate 256 (.int .u16 0))) := by kernel_rfl
theorem sz76 : szB Try.prog 76 = some 256 := by kernel_rfl
theorem tab_len : slotp.tabI.length = 256 := by decide +kernel
theorem tab_cell (Y : BitVec 8) : ((slotp.tabI.map (Value.int .u16)).toArray)[0 + ((Y.toNat : Nat) : Int).toNat * 1]? = some (Value.int .u16 ((slotp.tab Y).toNat : Int)) := by
  simp [slotp.tab_at]
theorem get_byte {l : List Int} (hl : ∀ x ∈ l, 0 ≤ x ∧ x ≤ 255) {i : Nat} (h : i < l.length) : l[i]? = some ((BitVec.ofInt 8 (l.getD i 0)).toNat : Int) := by
  have hg := get_some 0 h
  rw [slotp.byte_of (hl _ (List.mem_of_getElem? hg))]; exact hg
set_option maxRecDepth 100000 in
theorem crc54 (l : List Int) (g o c : Nat) (w0 : World) (hr : RB w0 g o l) (hc : l.length ≤ c) (hs : l.length ≤ 1000000) (hl : ∀ x ∈ l, 0 ≤ x ∧ x ≤ 255) : Calls Try.prog 54 #[.slice (some ⟨g, o, none⟩) l.length c] w0 fun e w' => e = .returned (.int .u16 ((slotp.crc l).toNat : Int)) ∧ Below w0.heap.size w0 w' := by
  have H := HH.start w0
  refine c_enter (args := [.slice (some ⟨g, o, none⟩) l.length c]) (k := 27) Try.func54 rfl rfl rfl (fun a S => ?_)
  refine wp_seq ?_
  refine c_region ?_
  refine l_pure S (p_assign rfl) rfl rfl rfl ?_; clear S a; intro a S
  refine l_nil ?_
  refine e_then ?_
  refine wp_seq ?_
  refine c_region ?_
  refine l_pure S (p_build (k := .u16) (e := 53) (m := 256) slotp.tabI Try.underlying76 sz53 (by rw [zv76]; simp [Value.cells, tab_len]) (by kernel_rfl) (by kernel_rfl)) rfl rfl rfl ?_; clear S a; intro a S
  refine l_alloc (cs := _) S H rfl (fun w => al zv76) rfl rfl rfl ?_; clear S a H; intro g1 w a H S
  refine l_storeAll S H rfl rfl rfl (by rw [sz76]; simp [tab_len]) .here (by simp [Value.cells, tab_len]) (fun v hv => by obtain ⟨n, _, rfl⟩ := List.mem_map.1 hv; rfl) rfl rfl ?_; clear S a H; intro w a H S
  refine l_nil ?_
  refine e_then ?_
  refine wp_seq ?_
  refine c_region ?_
  refine l_pure S (p_assign rfl) rfl rfl rfl ?_; clear S a; intro a S
  refine l_nil ?_
  refine e_then ?_
  refine wp_seq ?_
  refine wp_seq ?_
  refine c_region ?_
  refine l_pure S (p_move rfl) rfl rfl rfl ?_; clear S a; intro a S
  refine l_pure S (p_builtin (xs := [_]) rfl (fun _ _ _ => rfl)) rfl rfl rfl ?_; clear S a; intro a S
  refine l_pure S (p_move rfl) rfl rfl rfl ?_; clear S a; intro a S
  refine l_nil ?_
  refine e_then ?_
  refine wp_block ?_
  refine c_loop (σ := Nat × BitVec 16) (fun s a w => match s with | ⟨i, A⟩ => SL a 28 [] [(3, .pointer (some ⟨g1, 0, none⟩)), (4, .int .u16 (A.toNat : Int)), (9, .slice (some ⟨g, o, none⟩) l.length c), (10, .int .i64 (l.length : Int)), (11, .int .i64 (i : Int))] ∧ HH (w0.heap.size) w0 w [(g1, .cells (slotp.tabI.map (Value.int .u16)).toArray 76 (0, 0))] ∧ (i ≤ l.length ∧ A = slotp.crc (l.take i))) (fun s => match s with | ⟨i, A⟩ => l.length - i) ⟨0, 0#16⟩ ⟨S.only ⟨rfl, rfl, rfl, rfl, rfl, trivial⟩, H, ⟨Nat.zero_le _, rfl⟩⟩ ?_
  clear S a H; rintro ⟨i, A⟩ a w ⟨S, H, hinv⟩
  obtain ⟨hi, hA⟩ := hinv
  refine wp_seq ?_
  refine c_region ?_
  refine l_pure S (p_lss rfl rfl) rfl rfl rfl ?_; clear S a; intro a S
  refine l_nil ?_
  refine e_then ?_
  refine wp_seq ?_
  refine c_cond S rfl (fun c3 => ?_) (fun c3 => ?_)
  · skip
    have c3 := of_decide_eq_true c3
    refine wp_skip ?_
    refine e_then ?_
    refine wp_seq ?_
    refine wp_block ?_
    refine wp_seq ?_
    refine c_region ?_
    refine l_pure S (p_indexAddr rfl rfl (fun w => ia_slice Try.underlying55 sz5 (by omega) (by omega))) rfl rfl rfl ?_; clear S a; intro a S
    refine l_read S H (r_byte (l := l) (i := i) (v := ((BitVec.ofInt 8 (l.getD (i) 0)).toNat : Int)) rfl (by omega) ag5 hr rfl (get_byte hl (by omega))) rfl rfl rfl ?_; clear S a; intro a S
    refine l_pure S (p_assign rfl) rfl rfl rfl ?_; clear S a; intro a S
    refine l_nil ?_
    refine e_then ?_
    refine wp_seq ?_
    refine c_region ?_
    refine l_pure S (p_move rfl) rfl rfl rfl ?_; clear S a; intro a S
    refine l_pure S (p_shr rfl rfl (by decide) (slotp.s_shr A)) rfl rfl rfl ?_; clear S a; intro a S
    refine l_pure S (p_conv rfl (fun w => cv_int Try.underlying53 Try.underlying5 (slotp.s_w8 (A >>> 8)))) rfl rfl rfl ?_; clear S a; intro a S
    refine l_pure S (p_move rfl) rfl rfl rfl ?_; clear S a; intro a S
    refine l_pure S (p_xor rfl rfl (slotp.s_x8 ((A >>> 8).setWidth 8) (BitVec.ofInt 8 (l.getD i 0)))) rfl rfl rfl ?_; clear S a; intro a S
    refine l_pure S (p_assign rfl) rfl rfl rfl ?_; clear S a; intro a S
    refine l_nil ?_
    refine e_then ?_
    refine c_region ?_
    refine l_pure S (p_move rfl) rfl rfl rfl ?_; clear S a; intro a S
    refine l_pure S (p_shl rfl rfl (by decide) (slotp.s_shl A)) rfl rfl rfl ?_; clear S a; intro a S
    refine l_pure S (p_move rfl) rfl rfl rfl ?_; clear S a; intro a S
    have hY := ((A >>> 8).setWidth 8 ^^^ (BitVec.ofInt 8 (l.getD i 0))).isLt
    refine l_pure S (p_indexAddr rfl rfl (fun w => ia_array Try.underlying76 sz53 (by omega) (by omega))) rfl rfl rfl ?_; clear S a; intro a S
    refine l_read S H (r_load rfl List.mem_cons_self (tab_cell ((A >>> 8).setWidth 8 ^^^ (BitVec.ofInt 8 (l.getD i 0)))) (fun w hc => ld1 ag53 hc)) rfl rfl rfl ?_; clear S a; intro a S
    refine l_pure S (p_xor rfl rfl (slotp.s_x16 (A <<< 8) (slotp.tab ((A >>> 8).setWidth 8 ^^^ (BitVec.ofInt 8 (l.getD i 0)))))) rfl rfl rfl ?_; clear S a; intro a S
    refine l_pure S (p_assign rfl) rfl rfl rfl ?_; clear S a; intro a S
    refine l_nil ?_
    refine e_in 1 ?_
    refine e_then ?_
    refine c_region ?_
    refine l_pure S (p_add (r := _) rfl rfl (IntWalk.i64_in _ (by omega))) rfl rfl rfl ?_; clear S a; intro a S
    refine l_pure S (p_move rfl) rfl rfl rfl ?_; clear S a; intro a S
    refine l_nil ?_
    refine e_then ?_
    exact ⟨⟨i + 1, slotp.crcS A (BitVec.ofInt 8 (l.getD i 0))⟩, ⟨S.only ⟨rfl, rfl, rfl, rfl, rfl, trivial⟩, H, ⟨by omega, by rw [hA]; exact (slotp.crc_snoc l i _ (get_some 0 (by omega))).symm⟩⟩, by show l.length - (i + 1) < l.length - i; omega⟩
  · skip
    have c3 := of_decide_eq_false c3
    refine wp_exit ?_
    refine e_then_exit ?_
    refine e_then_exit ?_
    refine e_in_exit ?_
    refine e_then ?_
    refine wp_seq ?_
    refine c_region ?_
    refine l_pure S (p_move rfl) rfl rfl rfl ?_; clear S a; intro a S
    refine l_pure S (p_assign rfl) rfl rfl rfl ?_; clear S a; intro a S
    refine l_nil ?_
    refine e_then ?_
    refine wp_ret ?_
    have hl' : l.take i = l := List.take_of_length_le (by omega)
    exact r_ret1 S rfl rfl ⟨by rw [hA, hl'], H.below⟩
set_option maxRecDepth 100000 in
theorem tag45 (l : List Int) (g o c : Nat) (w0 : World) (hr : RB w0 g o l) (hc : l.length ≤ c) (hs : l.length ≤ 1000000) (hl : ∀ x ∈ l, 0 ≤ x ∧ x ≤ 255) : Calls Try.prog 45 #[.slice (some ⟨g, o, none⟩) l.length c] w0 fun e w' => ∃ o' c', e = .returned (.slice (some ⟨g, o', none⟩) (slotp.tagOf l).length c') ∧ RB w' g o' (slotp.tagOf l) ∧ (slotp.tagOf l).length ≤ c' ∧ Below w0.heap.size w0 w' := by
  have H := HH.start w0
  refine c_enter (args := [.slice (some ⟨g, o, none⟩) l.length c]) (k := 41) Try.func45 rfl rfl rfl (fun a S => ?_)
  refine wp_seq ?_
  refine c_region ?_
  refine l_pure S (p_assign rfl) rfl rfl rfl ?_; clear S a; intro a S
  refine l_nil ?_
  refine e_then ?_
  refine wp_seq ?_
  refine c_region ?_
  refine l_pure S (p_assign rfl) rfl rfl rfl ?_; clear S a; intro a S
  refine l_nil ?_
  refine e_then ?_
  refine wp_seq ?_
  refine wp_block ?_
  refine c_loop (σ := Nat) (fun s a w => match s with | i => SL a 42 [] [(0, .slice (some ⟨g, o, none⟩) l.length c), (3, .int .i64 (i : Int))] ∧ HH (w0.heap.size) w0 w [] ∧ (i ≤ l.length ∧ slotp.fnd l 123 i = slotp.fnd l 123 0)) (fun s => match s with | i => l.length - i) 0 ⟨S.only ⟨rfl, rfl, trivial⟩, H, ⟨Nat.zero_le _, rfl⟩⟩ ?_
  clear S a H; rintro i a w ⟨S, H, hinv⟩
  obtain ⟨hi, hp⟩ := hinv
  refine wp_seq ?_
  refine wp_seq ?_
  refine c_region ?_
  refine l_pure S (p_move rfl) rfl rfl rfl ?_; clear S a; intro a S
  refine l_pure S (p_move rfl) rfl rfl rfl ?_; clear S a; intro a S
  refine l_pure S (p_builtin (xs := [_]) rfl (fun _ _ _ => rfl)) rfl rfl rfl ?_; clear S a; intro a S
  refine l_pure S (p_lss rfl rfl) rfl rfl rfl ?_; clear S a; intro a S
  refine l_pure S (p_move rfl) rfl rfl rfl ?_; clear S a; intro a S
  refine l_split (S.of 9 rfl) (fun bc2 => ?_) (fun bc2 => ?_)
  · skip
    have c2 := bc2
    have c2 := of_decide_eq_true c2
    refine l_on S rfl rfl rfl rfl bc2 ?_
    refine l_pure S (p_move rfl) rfl rfl rfl ?_; clear S a; intro a S
    refine l_on S rfl rfl rfl rfl bc2 ?_
    refine l_pure S (p_move rfl) rfl rfl rfl ?_; clear S a; intro a S
    refine l_on S rfl rfl rfl rfl bc2 ?_
    refine l_pure S (p_indexAddr rfl rfl (fun w => ia_slice Try.underlying55 sz5 (by omega) (by omega))) rfl rfl rfl ?_; clear S a; intro a S
    refine l_on S rfl rfl rfl rfl bc2 ?_
    refine l_read S H (r_byte (l := l) (i := i) (v := l.getD (i) 0) rfl (by omega) ag5 hr rfl (get_some 0 (by omega))) rfl rfl rfl ?_; clear S a; intro a S
    refine l_on S rfl rfl rfl rfl bc2 ?_
    refine l_pure S (p_neq rfl rfl) rfl rfl rfl ?_; clear S a; intro a S
    refine l_pure S (p_pick_t rfl bc2 rfl) rfl rfl rfl ?_; clear S a; intro a S
    refine l_nil ?_
    refine e_then ?_
    refine c_cond S rfl (fun c4 => ?_) (fun c4 => ?_)
    · skip
      have c4 := bne_iff_ne.1 c4
      refine wp_skip ?_
      refine e_then ?_
      refine wp_block ?_
      refine c_region ?_
      refine l_pure S (p_move rfl) rfl rfl rfl ?_; clear S a; intro a S
      refine l_pure S (p_add (r := _) rfl rfl (IntWalk.i64_in _ (by omega))) rfl rfl rfl ?_; clear S a; intro a S
      refine l_pure S (p_assign rfl) rfl rfl rfl ?_; clear S a; intro a S
      refine l_nil ?_
      refine e_in 1 ?_
      refine e_then ?_
      exact ⟨(i + 1), ⟨S.only ⟨rfl, rfl, trivial⟩, H, ⟨by omega, by rw [← hp]; exact (slotp.fnd_skip (get_some 0 (by omega)) (by assumption)).symm⟩⟩, by show l.length - (i + 1) < l.length - i; omega⟩
    · skip
      have c4 := bne_eq_false_iff_eq.1 c4
      refine wp_exit ?_
      refine e_then_exit ?_
      refine e_then_exit ?_
      refine e_in_exit ?_
      refine e_then ?_
      refine wp_seq ?_
      refine wp_seq ?_
      refine c_region ?_
      refine l_pure S (p_move rfl) rfl rfl rfl ?_; clear S a; intro a S
      refine l_pure S (p_add (r := _) rfl rfl (IntWalk.i64_in _ (by omega))) rfl rfl rfl ?_; clear S a; intro a S
      refine l_pure S (p_assign rfl) rfl rfl rfl ?_; clear S a; intro a S
      refine l_nil ?_
      refine e_then ?_
      refine wp_block ?_
      have hp' : slotp.fnd l 123 0 = i := by rw [← hp]; first | exact slotp.fnd_end (by omega) | exact slotp.fnd_hit ((get_some 0 (by omega : i < l.length)).trans (congrArg some (by first | assumption | (simp_all; done))))
      refine c_loop (σ := Nat) (fun s a w => match s with | m => SL a 42 [] [(0, .slice (some ⟨g, o, none⟩) l.length c), (3, .int .i64 (i : Int)), (4, .int .i64 (m : Int))] ∧ HH (w0.heap.size) w0 w [] ∧ (i + 1 ≤ m ∧ m ≤ l.length + 1 ∧ slotp.fnd l 125 m = slotp.fnd l 125 (i + 1))) (fun s => match s with | m => l.length + 1 - m) (i + 1) ⟨S.only ⟨rfl, rfl, rfl, trivial⟩, H, ⟨Nat.le_refl _, by omega, rfl⟩⟩ ?_
      clear S a H; rintro m a w ⟨S, H, hinv⟩
      obtain ⟨hm1, hm2, hq⟩ := hinv
      refine wp_seq ?_
      refine wp_seq ?_
      refine c_region ?_
      refine l_pure S (p_move rfl) rfl rfl rfl ?_; clear S a; intro a S
      refine l_pure S (p_move rfl) rfl rfl rfl ?_; clear S a; intro a S
      refine l_pure S (p_builtin (xs := [_]) rfl (fun _ _ _ => rfl)) rfl rfl rfl ?_; clear S a; intro a S
      refine l_pure S (p_lss rfl rfl) rfl rfl rfl ?_; clear S a; intro a S
      refine l_nil ?_
      refine e_then ?_
      refine c_cond S rfl (fun c6 => ?_) (fun c6 => ?_)
      · skip
        have c6 := of_decide_eq_true c6
        refine wp_skip ?_
        refine e_then ?_
        refine wp_seq ?_
        refine wp_block ?_
        refine wp_seq ?_
        refine wp_seq ?_
        refine c_region ?_
        refine l_pure S (p_move rfl) rfl rfl rfl ?_; clear S a; intro a S
        refine l_pure S (p_move rfl) rfl rfl rfl ?_; clear S a; intro a S
        refine l_pure S (p_indexAddr rfl rfl (fun w => ia_slice Try.underlying55 sz5 (by omega) (by omega))) rfl rfl rfl ?_; clear S a; intro a S
        refine l_read S H (r_byte (l := l) (i := m) (v := l.getD (m) 0) rfl (by omega) ag5 hr rfl (get_some 0 (by omega))) rfl rfl rfl ?_; clear S a; intro a S
        refine l_pure S (p_neq rfl rfl) rfl rfl rfl ?_; clear S a; intro a S
        refine l_nil ?_
        refine e_then ?_
        refine c_cond S rfl (fun c8 => ?_) (fun c8 => ?_)
        · skip
          have c8 := bne_iff_ne.1 c8
          refine wp_exit ?_
          refine e_then_exit ?_
          refine e_in_exit ?_
          refine e_then ?_
          refine c_region ?_
          refine l_pure S (p_move rfl) rfl rfl rfl ?_; clear S a; intro a S
          refine l_pure S (p_add (r := _) rfl rfl (IntWalk.i64_in _ (by omega))) rfl rfl rfl ?_; clear S a; intro a S
          refine l_pure S (p_assign rfl) rfl rfl rfl ?_; clear S a; intro a S
          refine l_nil ?_
          refine e_then ?_
          exact ⟨(m + 1), ⟨S.only ⟨rfl, rfl, rfl, trivial⟩, H, ⟨by omega, by omega, by rw [← hq]; exact (slotp.fnd_skip (get_some 0 (by omega)) (by assumption)).symm⟩⟩, by show l.length + 1 - (m + 1) < l.length + 1 - m; omega⟩
        · skip
          have c8 := bne_eq_false_iff_eq.1 c8
          refine wp_skip ?_
          refine e_then ?_
          refine wp_seq ?_
          refine wp_seq ?_
          refine c_region ?_
          refine l_pure S (p_move rfl) rfl rfl rfl ?_; clear S a; intro a S
          refine l_pure S (p_move rfl) rfl rfl rfl ?_; clear S a; intro a S
          refine l_pure S (p_add (r := _) rfl rfl (IntWalk.i64_in _ (by omega))) rfl rfl rfl ?_; clear S a; intro a S
          refine l_pure S (p_eql rfl rfl) rfl rfl rfl ?_; clear S a; intro a S
          refine l_nil ?_
          refine e_then ?_
          refine c_cond S rfl (fun c10 => ?_) (fun c10 => ?_)
          · skip
            have c10 := eq_of_beq c10
            refine wp_seq ?_
            refine c_region ?_
            refine l_pure S (p_move rfl) rfl rfl rfl ?_; clear S a; intro a S
            refine l_pure S (p_assign rfl) rfl rfl rfl ?_; clear S a; intro a S
            refine l_nil ?_
            refine e_then ?_
            refine wp_ret ?_
            refine e_then_ret ?_
            refine e_in_ret ?_
            refine e_then_ret ?_
            refine e_then_ret ?_
            refine e_in_ret ?_
            refine e_then_ret ?_
            have ht : slotp.tagOf l = l := by
              unfold slotp.tagOf; simp only [hp']
              rw [if_neg]
              rintro ⟨h1, h2⟩
              have hq'' : slotp.fnd l 125 m = m := by first | exact slotp.fnd_end (by omega) | exact slotp.fnd_hit ((get_some 0 (by omega : m < l.length)).trans (congrArg some (by assumption)))
              omega
            exact r_ret1 S rfl rfl ⟨o, c, by rw [ht], by rw [ht]; exact hr.old H, by rw [ht]; exact hc, H.below⟩
          · skip
            have c10 := ne_of_beq_false c10
            refine wp_skip ?_
            refine e_then ?_
            refine wp_seq ?_
            refine c_region ?_
            refine l_pure S (p_move rfl) rfl rfl rfl ?_; clear S a; intro a S
            refine l_pure S (p_move rfl) rfl rfl rfl ?_; clear S a; intro a S
            refine l_pure S (p_add (r := _) rfl rfl (IntWalk.i64_in _ (by omega))) rfl rfl rfl ?_; clear S a; intro a S
            refine l_pure S (p_move rfl) rfl rfl rfl ?_; clear S a; intro a S
            refine l_pure S (p_slice rfl (o_some rfl) (o_some rfl) (fun _ _ => o_none) (fun w => sl_byte (l := l) (m := i + 1) (h := m) Try.underlying55 sz5 (by omega) (by omega) (by omega) (by omega) hc)) rfl rfl rfl ?_; clear S a; intro a S
            refine l_pure S (p_assign rfl) rfl rfl rfl ?_; clear S a; intro a S
            refine l_nil ?_
            refine e_then ?_
            refine wp_ret ?_
            refine e_in_ret ?_
            refine e_then_ret ?_
            refine e_then_ret ?_
            refine e_in_ret ?_
            refine e_then_ret ?_
            have hq' : slotp.fnd l 125 (i + 1) = m := by rw [← hq]; exact slotp.fnd_hit ((get_some 0 (by omega : m < l.length)).trans (congrArg some (by assumption)))
            have ht : slotp.tagOf l = (l.take m).drop (i + 1) := by unfold slotp.tagOf; simp only [hp', hq']; rw [if_pos ⟨by omega, by omega⟩]
            exact r_ret1 S rfl rfl ⟨offAt o c (i + 1), c - (i + 1), by rw [ht], by rw [ht]; exact (hr.cut (i + 1) m hc).old H, by rw [ht, List.length_drop, List.length_take]; omega, H.below⟩
      · skip
        have c6 := of_decide_eq_false c6
        refine wp_exit ?_
        refine e_then_exit ?_
        refine e_then_exit ?_
        refine e_in_exit ?_
        refine e_then ?_
        refine wp_seq ?_
        refine c_region ?_
        refine l_pure S (p_move rfl) rfl rfl rfl ?_; clear S a; intro a S
        refine l_pure S (p_assign rfl) rfl rfl rfl ?_; clear S a; intro a S
        refine l_nil ?_
        refine e_then ?_
        refine wp_ret ?_
        have ht : slotp.tagOf l = l := by
          unfold slotp.tagOf; simp only [hp']
          rw [if_neg]
          rintro ⟨h1, h2⟩
          have hq'' : slotp.fnd l 125 m = m := by first | exact slotp.fnd_end (by omega) | exact slotp.fnd_hit ((get_some 0 (by omega : m < l.length)).trans (congrArg some (by assumption)))
          omega
        exact r_ret1 S rfl rfl ⟨o, c, by rw [ht], by rw [ht]; exact hr.old H, by rw [ht]; exact hc, H.below⟩
  · skip
    have c2 := bc2
    have c2 := of_decide_eq_false c2
    refine l_off S rfl rfl rfl rfl bc2 rfl rfl ?_; clear S a; intro a S
    refine l_off S rfl rfl rfl rfl bc2 rfl rfl ?_; clear S a; intro a S
    refine l_off S rfl rfl rfl rfl bc2 rfl rfl ?_; clear S a; intro a S
    refine l_off S rfl rfl rfl rfl bc2 rfl rfl ?_; clear S a; intro a S
    refine l_off S rfl rfl rfl rfl bc2 rfl rfl ?_; clear S a; intro a S
    refine l_pure S (p_pick_f rfl bc2 rfl) rfl rfl rfl ?_; clear S a; intro a S
    refine l_nil ?_
    refine e_then ?_
    refine c_cond (b := false) S rfl (fun h => by cases h) (fun _ => ?_)
    refine wp_exit ?_
    refine e_then_exit ?_
    refine e_then_exit ?_
    refine e_in_exit ?_
    refine e_then ?_
    refine wp_seq ?_
    refine wp_seq ?_
    refine c_region ?_
    refine l_pure S (p_move rfl) rfl rfl rfl ?_; clear S a; intro a S
    refine l_pure S (p_add (r := _) rfl rfl (IntWalk.i64_in _ (by omega))) rfl rfl rfl ?_; clear S a; intro a S
    refine l_pure S (p_assign rfl) rfl rfl rfl ?_; clear S a; intro a S
    refine l_nil ?_
    refine e_then ?_
    refine wp_block ?_
    have hp' : slotp.fnd l 123 0 = i := by rw [← hp]; first | exact slotp.fnd_end (by omega) | exact slotp.fnd_hit ((get_some 0 (by omega : i < l.length)).trans (congrArg some (by first | assumption | (simp_all; done))))
    refine c_loop (σ := Nat) (fun s a w => match s with | m => SL a 42 [] [(0, .slice (some ⟨g, o, none⟩) l.length c), (3, .int .i64 (i : Int)), (4, .int .i64 (m : Int))] ∧ HH (w0.heap.size) w0 w [] ∧ (i + 1 ≤ m ∧ m ≤ l.length + 1 ∧ slotp.fnd l 125 m = slotp.fnd l 125 (i + 1))) (fun s => match s with | m => l.length + 1 - m) (i + 1) ⟨S.only ⟨rfl, rfl, rfl, trivial⟩, H, ⟨Nat.le_refl _, by omega, rfl⟩⟩ ?_
    clear S a H; rintro m a w ⟨S, H, hinv⟩
    obtain ⟨hm1, hm2, hq⟩ := hinv
    refine wp_seq ?_
    refine wp_seq ?_
    refine c_region ?_
    refine l_pure S (p_move rfl) rfl rfl rfl ?_; clear S a; intro a S
    refine l_pure S (p_move rfl) rfl rfl rfl ?_; clear S a; intro a S
    refine l_pure S (p_builtin (xs := [_]) rfl (fun _ _ _ => rfl)) rfl rfl rfl ?_; clear S a; intro a S
    refine l_pure S (p_lss rfl rfl) rfl rfl rfl ?_; clear S a; intro a S
    refine l_nil ?_
    refine e_then ?_
    refine c_cond S rfl (fun c14 => ?_) (fun c14 => ?_)
    · skip
      have c14 := of_decide_eq_true c14
      refine wp_skip ?_
      refine e_then ?_
      refine wp_seq ?_
      refine wp_block ?_
      refine wp_seq ?_
      refine wp_seq ?_
      refine c_region ?_
      refine l_pure S (p_move rfl) rfl rfl rfl ?_; clear S a; intro a S
      refine l_pure S (p_move rfl) rfl rfl rfl ?_; clear S a; intro a S
      refine l_pure S (p_indexAddr rfl rfl (fun w => ia_slice Try.underlying55 sz5 (by omega) (by omega))) rfl rfl rfl ?_; clear S a; intro a S
      refine l_read S H (r_byte (l := l) (i := m) (v := l.getD (m) 0) rfl (by omega) ag5 hr rfl (get_some 0 (by omega))) rfl rfl rfl ?_; clear S a; intro a S
      refine l_pure S (p_neq rfl rfl) rfl rfl rfl ?_; clear S a; intro a S
      refine l_nil ?_
      refine e_then ?_
      refine c_cond S rfl (fun c16 => ?_) (fun c16 => ?_)
      · skip
        have c16 := bne_iff_ne.1 c16
        refine wp_exit ?_
        refine e_then_exit ?_
        refine e_in_exit ?_
        refine e_then ?_
        refine c_region ?_
        refine l_pure S (p_move rfl) rfl rfl rfl ?_; clear S a; intro a S
        refine l_pure S (p_add (r := _) rfl rfl (IntWalk.i64_in _ (by omega))) rfl rfl rfl ?_; clear S a; intro a S
        refine l_pure S (p_assign rfl) rfl rfl rfl ?_; clear S a; intro a S
        refine l_nil ?_
        refine e_then ?_
        exact ⟨(m + 1), ⟨S.only ⟨rfl, rfl, rfl, trivial⟩, H, ⟨by omega, by omega, by rw [← hq]; exact (slotp.fnd_skip (get_some 0 (by omega)) (by assumption)).symm⟩⟩, by show l.length + 1 - (m + 1) < l.length + 1 - m; omega⟩
      · skip
        have c16 := bne_eq_false_iff_eq.1 c16
        refine wp_skip ?_
        refine e_then ?_
        refine wp_seq ?_
        refine wp_seq ?_
        refine c_region ?_
        refine l_pure S (p_move rfl) rfl rfl rfl ?_; clear S a; intro a S
        refine l_pure S (p_move rfl) rfl rfl rfl ?_; clear S a; intro a S
        refine l_pure S (p_add (r := _) rfl rfl (IntWalk.i64_in _ (by omega))) rfl rfl rfl ?_; clear S a; intro a S
        refine l_pure S (p_eql rfl rfl) rfl rfl rfl ?_; clear S a; intro a S
        refine l_nil ?_
        refine e_then ?_
        refine c_cond S rfl (fun c18 => ?_) (fun c18 => ?_)
        · skip
          have c18 := eq_of_beq c18
          refine wp_seq ?_
          refine c_region ?_
          refine l_pure S (p_move rfl) rfl rfl rfl ?_; clear S a; intro a S
          refine l_pure S (p_assign rfl) rfl rfl rfl ?_; clear S a; intro a S
          refine l_nil ?_
          refine e_then ?_
          refine wp_ret ?_
          refine e_then_ret ?_
          refine e_in_ret ?_
          refine e_then_ret ?_
          refine e_then_ret ?_
          refine e_in_ret ?_
          refine e_then_ret ?_
          have ht : slotp.tagOf l = l := by
            unfold slotp.tagOf; simp only [hp']
            rw [if_neg]
            rintro ⟨h1, h2⟩
            have hq'' : slotp.fnd l 125 m = m := by first | exact slotp.fnd_end (by omega) | exact slotp.fnd_hit ((get_some 0 (by omega : m < l.length)).trans (congrArg some (by assumption)))
            omega
          exact r_ret1 S rfl rfl ⟨o, c, by rw [ht], by rw [ht]; exact hr.old H, by rw [ht]; exact hc, H.below⟩
        · skip
          have c18 := ne_of_beq_false c18
          refine wp_skip ?_
          refine e_then ?_
          refine wp_seq ?_
          refine c_region ?_
          refine l_pure S (p_move rfl) rfl rfl rfl ?_; clear S a; intro a S
          refine l_pure S (p_move rfl) rfl rfl rfl ?_; clear S a; intro a S
          refine l_pure S (p_add (r := _) rfl rfl (IntWalk.i64_in _ (by omega))) rfl rfl rfl ?_; clear S a; intro a S
          refine l_pure S (p_move rfl) rfl rfl rfl ?_; clear S a; intro a S
          refine l_pure S (p_slice rfl (o_some rfl) (o_some rfl) (fun _ _ => o_none) (fun w => sl_byte (l := l) (m := i + 1) (h := m) Try.underlying55 sz5 (by omega) (by omega) (by omega) (by omega) hc)) rfl rfl rfl ?_; clear S a; intro a S
          refine l_pure S (p_assign rfl) rfl rfl rfl ?_; clear S a; intro a S
          refine l_nil ?_
          refine e_then ?_
          refine wp_ret ?_
          refine e_in_ret ?_
          refine e_then_ret ?_
          refine e_then_ret ?_
          refine e_in_ret ?_
          refine e_then_ret ?_
          have hq' : slotp.fnd l 125 (i + 1) = m := by rw [← hq]; exact slotp.fnd_hit ((get_some 0 (by omega : m < l.length)).trans (congrArg some (by assumption)))
          have ht : slotp.tagOf l = (l.take m).drop (i + 1) := by unfold slotp.tagOf; simp only [hp', hq']; rw [if_pos ⟨by omega, by omega⟩]
          exact r_ret1 S rfl rfl ⟨offAt o c (i + 1), c - (i + 1), by rw [ht], by rw [ht]; exact (hr.cut (i + 1) m hc).old H, by rw [ht, List.length_drop, List.length_take]; omega, H.below⟩
    · skip
      have c14 := of_decide_eq_false c14
      refine wp_exit ?_
      refine e_then_exit ?_
      refine e_then_exit ?_
      refine e_in_exit ?_
      refine e_then ?_
      refine wp_seq ?_
      refine c_region ?_
      refine l_pure S (p_move rfl) rfl rfl rfl ?_; clear S a; intro a S
      refine l_pure S (p_assign rfl) rfl rfl rfl ?_; clear S a; intro a S
      refine l_nil ?_
      refine e_then ?_
      refine wp_ret ?_
      have ht : slotp.tagOf l = l := by
        unfold slotp.tagOf; simp only [hp']
        rw [if_neg]
        rintro ⟨h1, h2⟩
        have hq'' : slotp.fnd l 125 m = m := by first | exact slotp.fnd_end (by omega) | exact slotp.fnd_hit ((get_some 0 (by omega : m < l.length)).trans (congrArg some (by assumption)))
        omega
      exact r_ret1 S rfl rfl ⟨o, c, by rw [ht], by rw [ht]; exact hr.old H, by rw [ht]; exact hc, H.below⟩
theorem slot25 (l : List Int) (g o c : Nat) (w0 : World) (hr : RB w0 g o l) (hc : l.length ≤ c) (hs : l.length ≤ 1000000) (hl : ∀ x ∈ l, 0 ≤ x ∧ x ≤ 255) : Calls Try.prog 25 #[.slice (some ⟨g, o, none⟩) l.length c] w0 fun e w' => e = .returned (.int .u16 (((slotp.crc (slotp.tagOf l)).toNat : Int) % 16384)) ∧ Below w0.heap.size w0 w' := by
  have H := HH.start w0
  refine c_enter (args := [.slice (some ⟨g, o, none⟩) l.length c]) (k := 6) Try.func25 rfl rfl rfl (fun a S => ?_)
  refine wp_seq ?_
  refine c_region ?_
  refine l_pure S (p_assign rfl) rfl rfl rfl ?_; clear S a; intro a S
  refine l_nil ?_
  refine e_then ?_
  refine wp_seq ?_
  refine c_region ?_
  refine l_pure S (p_move rfl) rfl rfl rfl ?_; clear S a; intro a S
  refine l_call S rfl rfl Try.func45 rfl rfl (tag45 l g o c _ hr hc hs hl) rfl rfl rfl ?_
  rintro e w ⟨o', c', rfl, hr', hc', hb⟩
  refine ⟨_, rfl, ?_⟩; clear S a; intro a S
  replace H := H.later hb; clear hb; have hs' := Nat.le_trans (slotp.tag_len l) hs
  refine l_call S rfl rfl Try.func44 rfl rfl (spec_CRC16.calls _ _ _ _ _ _ (hr'.C (by omega)) hc' (slotp.crc_spec _ (slotp.tag_range hl) hs')) rfl rfl rfl ?_
  rintro e w ⟨rfl, hd⟩
  refine ⟨_, rfl, ?_⟩; clear S a; intro a S
  replace H := H.later hd.below; clear hd
  have hmod : (((slotp.crc (slotp.tagOf l)).toNat : Int)).tmod 16384 = ((slotp.crc (slotp.tagOf l)).toNat : Int) % 16384 := Int.tmod_eq_emod_of_nonneg (by omega)
  refine l_pure S (p_rem (r := ((slotp.crc (slotp.tagOf l)).toNat : Int) % 16384) rfl rfl (by decide) hmod) rfl rfl rfl ?_; clear S a; intro a S
  refine l_pure S (p_assign rfl) rfl rfl rfl ?_; clear S a; intro a S
  refine l_nil ?_
  refine e_then ?_
  refine wp_ret ?_
  exact r_ret1 S rfl rfl ⟨rfl, H.below⟩
theorem slot43 (l : List Int) (g o c : Nat) (w0 : World) (hr : RB w0 g o l) (hc : l.length ≤ c) (hs : l.length ≤ 1000000) (hl : ∀ x ∈ l, 0 ≤ x ∧ x ≤ 255) : Calls Try.prog 43 #[.slice (some ⟨g, o, none⟩) l.length c] w0 fun e w' => e = .returned (.int .u16 (((slotp.crc (slotp.tagOf l)).toNat : Int) % 16384)) ∧ Below w0.heap.size w0 w' := by
  have H := HH.start w0
  refine c_enter (args := [.slice (some ⟨g, o, none⟩) l.length c]) (k := 26) Try.func43 rfl rfl rfl (fun a S => ?_)
  refine wp_seq ?_
  refine c_region ?_
  refine l_pure S (p_assign rfl) rfl rfl rfl ?_; clear S a; intro a S
  refine l_nil ?_
  refine e_then ?_
  refine wp_seq ?_
  refine wp_seq ?_
  refine c_region ?_
  refine l_pure S (p_move rfl) rfl rfl rfl ?_; clear S a; intro a S
  refine l_call S rfl rfl Try.func53 rfl rfl (index 123 l g o c _ (hr.old H)) rfl rfl rfl ?_
  rintro e w ⟨rfl, rfl⟩
  refine ⟨_, rfl, ?_⟩; clear S a; intro a S
  have hix := slotp.ix_eq l 123 (by decide) hl
  have hfp := slotp.fnd_le (l := l) (x := 123) (i := 0) (Nat.zero_le _)
  refine l_pure S (p_assign rfl) rfl rfl rfl ?_; clear S a; intro a S
  refine l_nil ?_
  refine e_then ?_
  refine wp_seq ?_
  refine c_region ?_
  refine l_pure S (p_move rfl) rfl rfl rfl ?_; clear S a; intro a S
  refine l_pure S (p_geq rfl rfl) rfl rfl rfl ?_; clear S a; intro a S
  refine l_nil ?_
  refine e_then ?_
  refine c_cond S rfl (fun c2 => ?_) (fun c2 => ?_)
  · skip
    have c2 := of_decide_eq_true c2
    have hif : slotp.fnd l 123 0 < l.length := by rw [hix] at c2; split at c2 <;> omega
    rw [if_pos hif] at hix
    refine wp_seq ?_
    refine c_region ?_
    refine l_pure S (p_move rfl) rfl rfl rfl ?_; clear S a; intro a S
    refine l_pure S (p_move rfl) rfl rfl rfl ?_; clear S a; intro a S
    refine l_pure S (p_add (r := _) rfl rfl (IntWalk.i64_in _ (by omega))) rfl rfl rfl ?_; clear S a; intro a S
    refine l_pure S (p_slice rfl (o_some rfl) (fun _ _ => o_none) (fun _ _ => o_none) (fun w => sl_byte_lo (l := l) (m := slotp.fnd l 123 0 + 1) Try.underlying55 sz5 (by omega) (by omega))) rfl rfl rfl ?_; clear S a; intro a S
    refine l_call S rfl rfl Try.func53 rfl rfl (index 125 (l.drop (slotp.fnd l 123 0 + 1)) _ _ _ _ ((hr.off _ hc).old H)) rfl rfl rfl ?_
    rintro e w ⟨rfl, rfl⟩
    refine ⟨_, rfl, ?_⟩; clear S a; intro a S
    have hjx := slotp.ix_eq (l.drop (slotp.fnd l 123 0 + 1)) 125 (by decide) (fun y hy => hl y (List.mem_of_mem_drop hy))
    have hfq : slotp.fnd l 125 (slotp.fnd l 123 0 + 1) = slotp.fnd l 123 0 + 1 + slotp.fnd (l.drop (slotp.fnd l 123 0 + 1)) 125 0 := by unfold slotp.fnd; simp
    have hdl : (l.drop (slotp.fnd l 123 0 + 1)).length = l.length - (slotp.fnd l 123 0 + 1) := List.length_drop
    refine l_pure S (p_assign rfl) rfl rfl rfl ?_; clear S a; intro a S
    refine l_nil ?_
    refine e_then ?_
    refine wp_seq ?_
    refine c_region ?_
    refine l_pure S (p_move rfl) rfl rfl rfl ?_; clear S a; intro a S
    refine l_pure S (p_gtr rfl rfl) rfl rfl rfl ?_; clear S a; intro a S
    refine l_nil ?_
    refine e_then ?_
    refine c_cond S rfl (fun c4 => ?_) (fun c4 => ?_)
    · skip
      have c4 := of_decide_eq_true c4
      have hjf : slotp.fnd (l.drop (slotp.fnd l 123 0 + 1)) 125 0 < l.length - (slotp.fnd l 123 0 + 1) := by rw [hdl] at hjx; rw [hjx] at c4; split at c4 <;> omega
      rw [hdl, if_pos hjf] at hjx
      have ht : slotp.tagOf l = (l.take (slotp.fnd l 125 (slotp.fnd l 123 0 + 1))).drop (slotp.fnd l 123 0 + 1) := by unfold slotp.tagOf; simp only; rw [if_pos ⟨by omega, by omega⟩]
      have HT := Aside0.mk ht; clear ht
      refine c_region ?_
      refine l_pure S (p_move rfl) rfl rfl rfl ?_; clear S a; intro a S
      refine l_pure S (p_move rfl) rfl rfl rfl ?_; clear S a; intro a S
      refine l_pure S (p_add (r := _) rfl rfl (IntWalk.i64_in _ (by omega))) rfl rfl rfl ?_; clear S a; intro a S
      refine l_pure S (p_move rfl) rfl rfl rfl ?_; clear S a; intro a S
      refine l_pure S (p_add (r := _) rfl rfl (IntWalk.i64_in _ (by omega))) rfl rfl rfl ?_; clear S a; intro a S
      refine l_pure S (p_move rfl) rfl rfl rfl ?_; clear S a; intro a S
      refine l_pure S (p_add (r := _) rfl rfl (IntWalk.i64_in _ (by omega))) rfl rfl rfl ?_; clear S a; intro a S
      refine l_pure S (p_slice rfl (o_some rfl) (o_some rfl) (fun _ _ => o_none) (fun w => sl_byte (l := l) (m := slotp.fnd l 123 0 + 1) (h := slotp.fnd l 125 (slotp.fnd l 123 0 + 1)) Try.underlying55 sz5 (by omega) (by omega) (by omega) (by omega) hc)) rfl rfl rfl ?_; clear S a; intro a S
      refine l_pure S (p_assign rfl) rfl rfl rfl ?_; clear S a; intro a S
      refine l_nil ?_
      refine e_then ?_
      refine wp_seq ?_
      refine c_region ?_
      refine l_pure S (p_move rfl) rfl rfl rfl ?_; clear S a; intro a S
      refine l_call S rfl rfl Try.func54 rfl rfl (crc54 ((l.take (slotp.fnd l 125 (slotp.fnd l 123 0 + 1))).drop (slotp.fnd l 123 0 + 1)) _ _ _ _ ((hr.cut _ _ hc).old H) (by rw [List.length_drop, List.length_take]; omega) (by rw [List.length_drop, List.length_take]; omega) (fun y hy => hl y (List.mem_of_mem_take (List.mem_of_mem_drop hy)))) rfl rfl rfl ?_
      rintro e w ⟨rfl, hb⟩
      refine ⟨_, rfl, ?_⟩; clear S a; intro a S
      replace H := H.later hb; clear hb; rw [← HT.out] at S
      have hmod : (((slotp.crc (slotp.tagOf l)).toNat : Int)).tmod 16384 = ((slotp.crc (slotp.tagOf l)).toNat : Int) % 16384 := Int.tmod_eq_emod_of_nonneg (by omega)
      refine l_pure S (p_rem (r := ((slotp.crc (slotp.tagOf l)).toNat : Int) % 16384) rfl rfl (by decide) hmod) rfl rfl rfl ?_; clear S a; intro a S
      refine l_pure S (p_assign rfl) rfl rfl rfl ?_; clear S a; intro a S
      refine l_nil ?_
      refine e_then ?_
      refine wp_ret ?_
      exact r_ret1 S rfl rfl ⟨rfl, H.below⟩
    · skip
      have c4 := of_decide_eq_false c4
      have ht : slotp.tagOf l = l := by
        unfold slotp.tagOf; simp only
        rw [if_neg]
        rintro ⟨h1, h2⟩
        rw [hjx, if_pos (by omega)] at c4
        omega
      have HT := Aside0.mk ht; clear ht
      refine wp_skip ?_
      refine e_then ?_
      refine wp_seq ?_
      refine c_region ?_
      refine l_pure S (p_move rfl) rfl rfl rfl ?_; clear S a; intro a S
      refine l_call S rfl rfl Try.func54 rfl rfl (crc54 l _ _ _ _ (hr.old H) hc hs hl) rfl rfl rfl ?_
      rintro e w ⟨rfl, hb⟩
      refine ⟨_, rfl, ?_⟩; clear S a; intro a S
      replace H := H.later hb; clear hb; rw [← HT.out] at S
      have hmod : (((slotp.crc (slotp.tagOf l)).toNat : Int)).tmod 16384 = ((slotp.crc (slotp.tagOf l)).toNat : Int) % 16384 := Int.tmod_eq_emod_of_nonneg (by omega)
      refine l_pure S (p_rem (r := ((slotp.crc (slotp.tagOf l)).toNat : Int) % 16384) rfl rfl (by decide) hmod) rfl rfl rfl ?_; clear S a; intro a S
      refine l_pure S (p_assign rfl) rfl rfl rfl ?_; clear S a; intro a S
      refine l_nil ?_
      refine e_then ?_
      refine wp_ret ?_
      exact r_ret1 S rfl rfl ⟨rfl, H.below⟩
  · skip
    have c2 := of_decide_eq_false c2
    have ht : slotp.tagOf l = l := by
      unfold slotp.tagOf; simp only
      rw [if_neg]
      rintro ⟨h1, h2⟩
      have := slotp.fnd_ge l 125 (slotp.fnd l 123 0 + 1)
      rw [hix, if_pos (by omega)] at c2
      omega
    have HT := Aside0.mk ht; clear ht
    refine wp_skip ?_
    refine e_then ?_
    refine wp_seq ?_
    refine c_region ?_
    refine l_pure S (p_move rfl) rfl rfl rfl ?_; clear S a; intro a S
    refine l_call S rfl rfl Try.func54 rfl rfl (crc54 l _ _ _ _ (hr.old H) hc hs hl) rfl rfl rfl ?_
    rintro e w ⟨rfl, hb⟩
    refine ⟨_, rfl, ?_⟩; clear S a; intro a S
    replace H := H.later hb; clear hb; rw [← HT.out] at S
    have hmod : (((slotp.crc (slotp.tagOf l)).toNat : Int)).tmod 16384 = ((slotp.crc (slotp.tagOf l)).toNat : Int) % 16384 := Int.tmod_eq_emod_of_nonneg (by omega)
    refine l_pure S (p_rem (r := ((slotp.crc (slotp.tagOf l)).toNat : Int) % 16384) rfl rfl (by decide) hmod) rfl rfl rfl ?_; clear S a; intro a S
    refine l_pure S (p_assign rfl) rfl rfl rfl ?_; clear S a; intro a S
    refine l_nil ?_
    refine e_then ?_
    refine wp_ret ?_
    exact r_ret1 S rfl rfl ⟨rfl, H.below⟩
theorem slot24 (s : ByteArray) (w0 : World) (hs : (ints s).length ≤ 1000000) : Calls Try.prog 24 #[.string s] w0 fun e w' => e = .returned (.int .i64 (((slotp.crc (slotp.tagOf (ints s))).toNat : Int) % 16384)) ∧ Below w0.heap.size w0 w' := by
  have H := HH.start w0
  refine c_enter (args := [.string s]) (k := 6) Try.func24 rfl rfl rfl (fun a S => ?_)
  refine wp_seq ?_
  refine c_region ?_
  refine l_pure S (p_assign rfl) rfl rfl rfl ?_; clear S a; intro a S
  refine l_nil ?_
  refine e_then ?_
  refine wp_seq ?_
  refine c_region ?_
  refine l_pure S (p_move rfl) rfl rfl rfl ?_; clear S a; intro a S
  refine l_bytes S H rfl rfl Try.underlying9 Try.underlying55 Try.underlying5 rfl rfl rfl ?_; clear S a H; intro g1 capg1 csg1 fg1 w a H hcapg1 hcsg1 S
  have hrbg1 := Aside0.mk (RB.of H List.mem_cons_self hcsg1)
  rw [← ints_len] at hcapg1
  refine l_call S rfl rfl Try.func43 rfl rfl (slot43 (ints s) _ _ _ _ hrbg1.out hcapg1 hs (ints_range s)) rfl rfl rfl ?_
  rintro e w ⟨rfl, hb⟩
  refine ⟨_, rfl, ?_⟩; clear S a; intro a S
  replace H := H.later hb; clear hb
  have hsm : 0 ≤ (((slotp.crc (slotp.tagOf (ints s))).toNat : Int) % 16384) ∧ (((slotp.crc (slotp.tagOf (ints s))).toNat : Int) % 16384) < 16384 := by omega
  refine l_pure S (p_conv rfl (fun w => cv_int (r := (((slotp.crc (slotp.tagOf (ints s))).toNat : Int) % 16384)) Try.underlying53 Try.underlying3 (IntWalk.i64_in _ (by omega)))) rfl rfl rfl ?_; clear S a; intro a S
  refine l_pure S (p_assign rfl) rfl rfl rfl ?_; clear S a; intro a S
  refine l_nil ?_
  refine e_then ?_
  refine wp_ret ?_
  exact r_ret1 S rfl rfl ⟨rfl, H.below⟩
theorem law (s : ByteArray) (w0 : World) : Calls Try.prog 7 #[.string s] w0 fun e w' => e = .returned (.bool true) ∧ Below w0.heap.size w0 w' := by
  have H := HH.start w0
  refine c_enter (args := [.string s]) (k := 21) Try.func7 rfl rfl rfl (fun a S => ?_)
  refine wp_seq ?_
  refine c_region ?_
  refine l_pure S (p_assign rfl) rfl rfl rfl ?_; clear S a; intro a S
  refine l_nil ?_
  refine e_then ?_
  refine wp_seq ?_
  refine wp_seq ?_
  refine c_region ?_
  refine l_pure S (p_move rfl) rfl rfl rfl ?_; clear S a; intro a S
  refine l_pure S (p_builtin (xs := [_]) rfl (fun _ _ _ => rfl)) rfl rfl rfl ?_; clear S a; intro a S
  refine l_pure S (p_gtr rfl rfl) rfl rfl rfl ?_; clear S a; intro a S
  refine l_nil ?_
  refine e_then ?_
  refine c_cond S rfl (fun c3 => ?_) (fun c3 => ?_)
  · skip
    have c3 := of_decide_eq_true c3
    refine wp_seq ?_
    refine c_region ?_
    refine l_pure S (p_assign rfl) rfl rfl rfl ?_; clear S a; intro a S
    refine l_nil ?_
    refine e_then ?_
    refine wp_ret ?_
    refine e_then_ret ?_
    exact r_ret1 S rfl rfl ⟨rfl, H.below⟩
  · skip
    have c3 := of_decide_eq_false c3
    refine wp_skip ?_
    refine e_then ?_
    refine wp_seq ?_
    refine c_region ?_
    refine l_pure S (p_move rfl) rfl rfl rfl ?_; clear S a; intro a S
    refine l_pure S (p_builtin (xs := [_]) rfl (fun _ _ _ => rfl)) rfl rfl rfl ?_; clear S a; intro a S
    refine l_pure S (p_gtr rfl rfl) rfl rfl rfl ?_; clear S a; intro a S
    refine l_pure S (p_move rfl) rfl rfl rfl ?_; clear S a; intro a S
    refine l_split (S.of 9 rfl) (fun bc6 => ?_) (fun bc6 => ?_)
    · skip
      have c6 := bc6
      have c6 := of_decide_eq_true c6
      refine l_off S rfl rfl rfl rfl bc6 rfl rfl ?_; clear S a; intro a S
      refine l_off S rfl rfl rfl rfl bc6 rfl rfl ?_; clear S a; intro a S
      refine l_off S rfl rfl rfl rfl bc6 rfl rfl ?_; clear S a; intro a S
      refine l_off S rfl rfl rfl rfl bc6 rfl rfl ?_; clear S a; intro a S
      refine l_off S rfl rfl rfl rfl bc6 rfl rfl ?_; clear S a; intro a S
      refine l_off S rfl rfl rfl rfl bc6 rfl rfl ?_; clear S a; intro a S
      refine l_off S rfl rfl rfl rfl bc6 rfl rfl ?_; clear S a; intro a S
      refine l_off S rfl rfl rfl rfl bc6 rfl rfl ?_; clear S a; intro a S
      refine l_offU S rfl rfl rfl rfl rfl rfl ?_; clear S a; intro a S
      refine l_offU S rfl rfl rfl rfl rfl rfl ?_; clear S a; intro a S
      refine l_off S rfl rfl rfl rfl bc6 rfl rfl ?_; clear S a; intro a S
      refine l_pure S (p_pick_t rfl bc6 rfl) rfl rfl rfl ?_; clear S a; intro a S
      refine l_pure S (p_assign rfl) rfl rfl rfl ?_; clear S a; intro a S
      refine l_nil ?_
      refine e_then ?_
      refine wp_ret ?_
      exact r_ret1 S rfl rfl ⟨rfl, H.below⟩
    · skip
      have c6 := bc6
      have c6 := of_decide_eq_false c6
      refine l_on S rfl rfl rfl rfl bc6 ?_
      refine l_pure S (p_move rfl) rfl rfl rfl ?_; clear S a; intro a S
      refine l_on S rfl rfl rfl rfl bc6 ?_
      refine l_call S rfl rfl Try.func24 rfl rfl (slot24 s _ (by rw [ints_len]; omega)) rfl rfl rfl ?_
      rintro e w ⟨rfl, hb⟩
      refine ⟨_, rfl, ?_⟩; clear S a; intro a S
      replace H := H.later hb; clear hb
      refine l_on S rfl rfl rfl rfl bc6 ?_
      refine l_pure S (p_move rfl) rfl rfl rfl ?_; clear S a; intro a S
      refine l_on S rfl rfl rfl rfl bc6 ?_
      refine l_bytes S H rfl rfl Try.underlying9 Try.underlying55 Try.underlying5 rfl rfl rfl ?_; clear S a H; intro g8 capg8 csg8 fg8 w a H hcapg8 hcsg8 S
      have hrbg8 := Aside0.mk (RB.of H List.mem_cons_self hcsg8)
      rw [← ints_len] at hcapg8
      refine l_on S rfl rfl rfl rfl bc6 ?_
      refine l_call S rfl rfl Try.func25 rfl rfl (slot25 (ints s) _ _ _ _ hrbg8.out hcapg8 (by rw [ints_len]; omega) (ints_range s)) rfl rfl rfl ?_
      rintro e w ⟨rfl, hb⟩
      refine ⟨_, rfl, ?_⟩; clear S a; intro a S
      replace H := H.later hb; clear hb
      refine l_on S rfl rfl rfl rfl bc6 ?_
      have hsm : 0 ≤ (((slotp.crc (slotp.tagOf (ints s))).toNat : Int) % 16384) ∧ (((slotp.crc (slotp.tagOf (ints s))).toNat : Int) % 16384) < 16384 := by omega
      refine l_pure S (p_conv rfl (fun w => cv_int (r := (((slotp.crc (slotp.tagOf (ints s))).toNat : Int) % 16384)) Try.underlying53 Try.underlying3 (IntWalk.i64_in _ (by omega)))) rfl rfl rfl ?_; clear S a; intro a S
      refine l_on S rfl rfl rfl rfl bc6 ?_
      refine l_pure S (p_eql rfl rfl) rfl rfl rfl ?_; clear S a; intro a S
      refine l_on S rfl rfl rfl rfl bc6 ?_
      refine l_pure S (p_move rfl) rfl rfl rfl ?_; clear S a; intro a S
      refine l_on S rfl rfl rfl rfl (beq_self_eq_true _) ?_
      refine l_call S rfl rfl Try.func24 rfl rfl (slot24 slotp.somekey _ (by decide)) rfl rfl rfl ?_
      rintro e w ⟨rfl, hb⟩
      refine ⟨_, rfl, ?_⟩; clear S a; intro a S
      replace H := H.later hb; clear hb; rw [slotp.key_val] at S
      refine l_on S rfl rfl rfl rfl (beq_self_eq_true _) ?_
      refine l_pure S (p_eql rfl rfl) rfl rfl rfl ?_; clear S a; intro a S
      refine l_on S rfl rfl rfl rfl bc6 ?_
      refine l_pure S (p_pick_t rfl (beq_self_eq_true _) rfl) rfl rfl rfl ?_; clear S a; intro a S
      refine l_pure S (p_pick_f rfl bc6 rfl) rfl rfl rfl ?_; clear S a; intro a S
      refine l_pure S (p_assign rfl) rfl rfl rfl ?_; clear S a; intro a S
      refine l_nil ?_
      refine e_then ?_
      refine wp_ret ?_
      exact r_ret1 S rfl rfl ⟨rfl, H.below⟩
end Go.Proofs.Ytcjdadfiedoflaa.slot
