/- The decoder: bytes counted, faults told. -/
import Derived.Test.YtbahngfpadjbhaaDoorTk
import Derived.Test.YtbahngfpadjbhaaDoorGm
namespace Go.Proofs.YtbahngfpadjbhaaDoor.dec
open Go.RowKit Go.Proofs.HHW Go.Proofs.YtbahngfpadjbhaaDoorW.PrintWords
set_option linter.unusedVariables false
set_option linter.unusedSimpArgs false
namespace gt
theorem ag2 : aggB Tryd.prog 2 = some false := by kernel_rfl
theorem ag3 : aggB Tryd.prog 3 = some false := by kernel_rfl
theorem ag32 : aggB Tryd.prog 32 = some false := by kernel_rfl
theorem ag5 : aggB Tryd.prog 5 = some false := by kernel_rfl
theorem ag52 : aggB Tryd.prog 52 = some false := by kernel_rfl
theorem fa54_1 (w : World) (g o : Nat) : (Instr.fieldAt 54 (.pointer (some ⟨g, o, none⟩)) 1).run Tryd.prog w = .ok (.pointer (some ⟨g, o + 1, none⟩)) w := by kernel_rfl
theorem fa54_2 (w : World) (g o : Nat) : (Instr.fieldAt 54 (.pointer (some ⟨g, o, none⟩)) 2).run Tryd.prog w = .ok (.pointer (some ⟨g, o + 2, none⟩)) w := by kernel_rfl
theorem fa54_3 (w : World) (g o : Nat) : (Instr.fieldAt 54 (.pointer (some ⟨g, o, none⟩)) 3).run Tryd.prog w = .ok (.pointer (some ⟨g, o + 3, none⟩)) w := by kernel_rfl
theorem fa54_5 (w : World) (g o : Nat) : (Instr.fieldAt 54 (.pointer (some ⟨g, o, none⟩)) 5).run Tryd.prog w = .ok (.pointer (some ⟨g, o + 5, none⟩)) w := by kernel_rfl
theorem fa54_8 (w : World) (g o : Nat) : (Instr.fieldAt 54 (.pointer (some ⟨g, o, none⟩)) 8).run Tryd.prog w = .ok (.pointer (some ⟨g, o + 8, none⟩)) w := by kernel_rfl
theorem sz5 : szB Tryd.prog 5 = some 1 := by kernel_rfl
theorem sz52 : szB Tryd.prog 52 = some 1 := by kernel_rfl
theorem bld88_0_1_2 (x0_0 : Int) (x1_0 : Int) (x2_0t : TypeId) (x2_0v : Value) : Tryd.prog.built 88 [(0, (.int .i64 x0_0)), (1, (.int .i64 x1_0)), (2, (.iface x2_0t x2_0v))] = some #[.int .i64 x0_0, .int .i64 x1_0, .iface x2_0t x2_0v] := by kernel_rfl
theorem bld91_0 (x0_0 : ByteArray) : Tryd.prog.built 91 [(0, (.string x0_0))] = some #[.string x0_0] := by kernel_rfl
theorem mk86 (w : World) (p : Option Addr) : (Instr.makeInterface 86 (.pointer p)).run Tryd.prog w = .ok (.iface 86 (.pointer p)) w := by kernel_rfl
theorem mk89 (w : World) (p : Option Addr) : (Instr.makeInterface 89 (.pointer p)).run Tryd.prog w = .ok (.iface 89 (.pointer p)) w := by kernel_rfl
theorem count_ (w0 : World) (A : Option Addr) (c : Nat) (l : List Int) (b : Int) (hsb : SB w0 A c l) (hl : l.length ≤ 1000000000) : Calls Tryd.prog 38 #[.slice A l.length c, .int .u8 b] w0 fun e w' => e = .returned (.int .i64 (cnt b l : Int)) ∧ Below w0.heap.size w0 w' := by
  have H := HH.start w0
  refine c_enter (args := [.slice A l.length c, .int .u8 b]) (k := 19) Tryd.func38 rfl rfl rfl (fun a S => ?_)
  refine wp_seq ?_
  refine c_region ?_
  refine l_pure S (p_assign rfl) rfl rfl rfl ?_; clear S a; intro a S
  refine l_nil ?_
  refine e_then ?_
  refine wp_seq ?_
  refine c_region ?_
  refine l_pure S (p_assign rfl) rfl rfl rfl ?_; clear S a; intro a S
  refine l_nil ?_
  refine e_then ?_
  refine wp_seq ?_
  refine wp_seq ?_
  refine c_region ?_
  refine l_pure S (p_move rfl) rfl rfl rfl ?_; clear S a; intro a S
  refine l_pure S (p_len Tryd.underlying32 rfl) rfl rfl rfl ?_; clear S a; intro a S
  refine l_pure S (p_move rfl) rfl rfl rfl ?_; clear S a; intro a S
  refine l_nil ?_
  refine e_then ?_
  refine wp_block ?_
  refine c_loop (σ := Nat × Nat) (fun s_ a w => match s_ with | ⟨j, n⟩ => SL a 21 [] [(1, .int .u8 b), (5, .int .i64 (n : Int)), (8, .slice A l.length c), (9, .int .i64 (l.length : Int)), (10, .int .i64 (j : Int))] ∧ HH (w0.heap.size) w0 w [] ∧ (j ≤ l.length ∧ n = cnt b (l.take j))) (fun s_ => match s_ with | ⟨j, n⟩ => l.length - j) ⟨0, 0⟩ ⟨S.only ⟨rfl, rfl, rfl, rfl, rfl, trivial⟩, H, ⟨Nat.zero_le _, rfl⟩⟩ ?_
  clear S a H; rintro ⟨j, n⟩ a w ⟨S, H, hinv⟩
  obtain ⟨hj, hn⟩ := hinv
  have hcl := cnt_le b (l.take j)
  rw [List.length_take, ← hn] at hcl
  refine wp_seq ?_
  refine c_region ?_
  refine l_pure S (p_lss rfl rfl) rfl rfl rfl ?_; clear S a; intro a S
  refine l_nil ?_
  refine e_then ?_
  refine wp_seq ?_
  refine c_cond S rfl (fun bc2 => ?_) (fun bc2 => ?_)
  · skip
    have c2 := bc2
    have c2 := of_decide_eq_true c2
    refine wp_skip ?_
    refine e_then ?_
    refine wp_seq ?_
    refine wp_block ?_
    refine wp_seq ?_
    refine c_region ?_
    obtain ⟨gq3, oq3, hAq3, hRq3⟩ := hsb.get (show j < l.length by omega)
    refine l_pure S (p_indexAddr (u := .slice (some ⟨gq3, oq3, none⟩) l.length c) (by rw [← hAq3]; rfl) rfl (fun w => ia_slice Tryd.underlying32 sz5 (by omega) (by omega))) rfl rfl rfl ?_; clear S a; intro a S
    refine l_read S H (r_byte (l := l) (i := j) rfl (by omega) ag5 hRq3 rfl (get_some 0 (by omega))) rfl rfl rfl ?_; clear S a; intro a S
    refine l_pure S (p_assign rfl) rfl rfl rfl ?_; clear S a; intro a S
    refine l_nil ?_
    refine e_then ?_
    refine wp_seq ?_
    refine c_region ?_
    refine l_pure S (p_move rfl) rfl rfl rfl ?_; clear S a; intro a S
    refine l_pure S (p_move rfl) rfl rfl rfl ?_; clear S a; intro a S
    refine l_pure S (p_eql rfl rfl) rfl rfl rfl ?_; clear S a; intro a S
    refine l_nil ?_
    refine e_then ?_
    refine c_cond S rfl (fun bc5 => ?_) (fun bc5 => ?_)
    · skip
      have c5 := bc5
      have c5 := eq_of_beq c5
      have hcs := cnt_succ b (l := l) (j := j) (by omega)
      rw [if_pos c5] at hcs
      refine c_region ?_
      refine l_pure S (p_move rfl) rfl rfl rfl ?_; clear S a; intro a S
      refine l_pure S (p_add rfl rfl (nat_add (x := n) (y := 1) (by omega))) rfl rfl rfl ?_; clear S a; intro a S
      refine l_pure S (p_assign rfl) rfl rfl rfl ?_; clear S a; intro a S
      refine l_nil ?_
      refine e_in 1 ?_
      refine e_then ?_
      refine c_region ?_
      refine l_pure S (p_add rfl rfl (nat_add (x := j) (y := 1) (by omega))) rfl rfl rfl ?_; clear S a; intro a S
      refine l_pure S (p_move rfl) rfl rfl rfl ?_; clear S a; intro a S
      refine l_nil ?_
      refine e_then ?_
      exact ⟨⟨j + 1, (n + 1)⟩, ⟨S.only ⟨rfl, rfl, rfl, rfl, rfl, trivial⟩, H, ⟨by omega, by omega⟩⟩, (show l.length - (j + 1) < l.length - j from by omega)⟩
    · skip
      have c5 := bc5
      have c5 := ne_of_beq_false c5
      have hcs := cnt_succ b (l := l) (j := j) (by omega)
      rw [if_neg c5] at hcs
      refine wp_skip ?_
      refine e_in 1 ?_
      refine e_then ?_
      refine c_region ?_
      refine l_pure S (p_add rfl rfl (nat_add (x := j) (y := 1) (by omega))) rfl rfl rfl ?_; clear S a; intro a S
      refine l_pure S (p_move rfl) rfl rfl rfl ?_; clear S a; intro a S
      refine l_nil ?_
      refine e_then ?_
      exact ⟨⟨j + 1, n⟩, ⟨S.only ⟨rfl, rfl, rfl, rfl, rfl, trivial⟩, H, ⟨by omega, by omega⟩⟩, (show l.length - (j + 1) < l.length - j from by omega)⟩
  · skip
    have c2 := bc2
    have c2 := of_decide_eq_false c2
    refine wp_exit ?_
    refine e_then_exit ?_
    refine e_then_exit ?_
    refine e_in_exit ?_
    refine e_then ?_
    refine wp_seq ?_
    refine c_region ?_
    refine l_pure S (p_move rfl) rfl rfl rfl ?_; clear S a; intro a S
    refine l_pure S (p_assign rfl) rfl rfl rfl ?_; clear S a; intro a S
    refine l_nil ?_
    refine e_then ?_
    refine wp_ret ?_
    obtain rfl : j = l.length := by omega
    rw [List.take_of_length_le (Nat.le_refl _)] at hn
    subst hn
    exact r_ret1 S rfl rfl ⟨rfl, H.below⟩
theorem lastI_ (w0 : World) (A : Option Addr) (c : Nat) (l : List Int) (b : Int) (hsb : SB w0 A c l) (hl : l.length ≤ 1000000000) : Calls Tryd.prog 69 #[.slice A l.length c, .int .u8 b] w0 fun e w' => e = .returned (.int .i64 ((lastp b l l.length : Int) - 1)) ∧ Below w0.heap.size w0 w' := by
  have H := HH.start w0
  refine c_enter (args := [.slice A l.length c, .int .u8 b]) (k := 18) Tryd.func69 rfl rfl rfl (fun a S => ?_)
  refine wp_seq ?_
  refine c_region ?_
  refine l_pure S (p_assign rfl) rfl rfl rfl ?_; clear S a; intro a S
  refine l_nil ?_
  refine e_then ?_
  refine wp_seq ?_
  refine wp_seq ?_
  refine c_region ?_
  refine l_pure S (p_move rfl) rfl rfl rfl ?_; clear S a; intro a S
  refine l_pure S (p_len Tryd.underlying32 rfl) rfl rfl rfl ?_; clear S a; intro a S
  refine l_pure S (p_sub (r := _) rfl rfl (IntWalk.i64_in _ (by omega))) rfl rfl rfl ?_; clear S a; intro a S
  refine l_pure S (p_assign rfl) rfl rfl rfl ?_; clear S a; intro a S
  refine l_nil ?_
  refine e_then ?_
  refine wp_block ?_
  refine c_loop (σ := Nat) (fun s_ a w => match s_ with | k => SL a 20 [] [(0, .slice A l.length c), (1, .int .u8 b), (5, .int .i64 ((k : Int) - 1))] ∧ HH (w0.heap.size) w0 w [] ∧ (k ≤ l.length ∧ lastp b l l.length = lastp b l k)) (fun s_ => match s_ with | k => k) l.length ⟨S.only ⟨rfl, rfl, rfl, trivial⟩, H, ⟨Nat.le_refl _, rfl⟩⟩ ?_
  clear S a H; rintro k a w ⟨S, H, hinv⟩
  obtain ⟨hk, hlp⟩ := hinv
  refine wp_seq ?_
  refine wp_seq ?_
  refine c_region ?_
  refine l_pure S (p_move rfl) rfl rfl rfl ?_; clear S a; intro a S
  refine l_pure S (p_geq rfl rfl) rfl rfl rfl ?_; clear S a; intro a S
  refine l_nil ?_
  refine e_then ?_
  refine c_cond S rfl (fun bc2 => ?_) (fun bc2 => ?_)
  · skip
    have c2 := bc2
    have c2 := of_decide_eq_true c2
    obtain ⟨j, rfl⟩ : ∃ j, k = j + 1 := ⟨k - 1, by omega⟩
    rw [show ((j + 1 : Nat) : Int) - 1 = (j : Int) by omega] at S
    refine wp_skip ?_
    refine e_then ?_
    refine wp_seq ?_
    refine wp_block ?_
    refine wp_seq ?_
    refine c_region ?_
    refine l_pure S (p_move rfl) rfl rfl rfl ?_; clear S a; intro a S
    refine l_pure S (p_move rfl) rfl rfl rfl ?_; clear S a; intro a S
    obtain ⟨gq3, oq3, hAq3, hRq3⟩ := hsb.get (show j < l.length by omega)
    refine l_pure S (p_indexAddr (u := .slice (some ⟨gq3, oq3, none⟩) l.length c) (by rw [← hAq3]; rfl) rfl (fun w => ia_slice Tryd.underlying32 sz5 (by omega) (by omega))) rfl rfl rfl ?_; clear S a; intro a S
    refine l_read S H (r_byte (l := l) (i := j) rfl (by omega) ag5 hRq3 rfl (get_some 0 (by omega))) rfl rfl rfl ?_; clear S a; intro a S
    refine l_pure S (p_move rfl) rfl rfl rfl ?_; clear S a; intro a S
    refine l_pure S (p_eql rfl rfl) rfl rfl rfl ?_; clear S a; intro a S
    refine l_nil ?_
    refine e_then ?_
    refine c_cond S rfl (fun bc5 => ?_) (fun bc5 => ?_)
    · skip
      have c5 := bc5
      have c5 := eq_of_beq c5
      refine wp_seq ?_
      refine c_region ?_
      refine l_pure S (p_move rfl) rfl rfl rfl ?_; clear S a; intro a S
      refine l_pure S (p_assign rfl) rfl rfl rfl ?_; clear S a; intro a S
      refine l_nil ?_
      refine e_then ?_
      refine wp_ret ?_
      refine e_in_ret ?_
      refine e_then_ret ?_
      refine e_then_ret ?_
      refine e_in_ret ?_
      refine e_then_ret ?_
      have e1 : lastp b l l.length = j + 1 := hlp.trans (lastp_hit (by assumption))
      exact r_ret1 S rfl rfl ⟨by rw [e1, show ((j + 1 : Nat) : Int) - 1 = (j : Int) by omega], H.below⟩
    · skip
      have c5 := bc5
      have c5 := ne_of_beq_false c5
      refine wp_skip ?_
      refine e_in 1 ?_
      refine e_then ?_
      refine c_region ?_
      refine l_pure S (p_move rfl) rfl rfl rfl ?_; clear S a; intro a S
      refine l_pure S (p_sub (r := _) rfl rfl (IntWalk.i64_in _ (by omega))) rfl rfl rfl ?_; clear S a; intro a S
      refine l_pure S (p_assign rfl) rfl rfl rfl ?_; clear S a; intro a S
      refine l_nil ?_
      refine e_then ?_
      exact ⟨j, ⟨S.only ⟨rfl, rfl, rfl, trivial⟩, H, ⟨by omega, hlp.trans (lastp_miss (by assumption))⟩⟩, (Nat.lt_succ_self j)⟩
  · skip
    have c2 := bc2
    have c2 := of_decide_eq_false c2
    refine wp_exit ?_
    refine e_then_exit ?_
    refine e_then_exit ?_
    refine e_in_exit ?_
    refine e_then ?_
    refine wp_seq ?_
    refine c_region ?_
    refine l_pure S (p_assign rfl) rfl rfl rfl ?_; clear S a; intro a S
    refine l_nil ?_
    refine e_then ?_
    refine wp_ret ?_
    obtain rfl : k = 0 := by omega
    exact r_ret1 S rfl rfl ⟨by rw [hlp]; rfl, H.below⟩
theorem last_ (w0 : World) (A : Option Addr) (c : Nat) (l : List Int) (b : Int) (hsb : SB w0 A c l) (hl : l.length ≤ 1000000000) : Calls Tryd.prog 60 #[.slice A l.length c, .int .u8 b] w0 fun e w' => e = .returned (.int .i64 ((lastp b l l.length : Int) - 1)) ∧ Below w0.heap.size w0 w' := by
  have H := HH.start w0
  refine c_enter (args := [.slice A l.length c, .int .u8 b]) (k := 6) Tryd.func60 rfl rfl rfl (fun a S => ?_)
  refine wp_seq ?_
  refine c_region ?_
  refine l_pure S (p_assign rfl) rfl rfl rfl ?_; clear S a; intro a S
  refine l_nil ?_
  refine e_then ?_
  refine wp_seq ?_
  refine c_region ?_
  refine l_pure S (p_move rfl) rfl rfl rfl ?_; clear S a; intro a S
  refine l_pure S (p_move rfl) rfl rfl rfl ?_; clear S a; intro a S
  have hcon := lastI_ _ A c l b (hsb.later H.below) hl
  refine l_call S rfl rfl Tryd.func69 rfl rfl (hcon) rfl rfl rfl ?_
  rintro e w ⟨rfl, hb⟩
  refine ⟨_, rfl, ?_⟩; clear S a; intro a S
  replace H := H.later hb; clear hcon hb
  refine l_pure S (p_assign rfl) rfl rfl rfl ?_; clear S a; intro a S
  refine l_nil ?_
  refine e_then ?_
  refine wp_ret ?_
  exact r_ret1 S rfl rfl ⟨rfl, H.below⟩
theorem errNew_ (wb w0 : World) (B : Nat) (L0 : List (Nat × Obj)) (s : ByteArray) (H : HH B wb w0 L0) : Calls Tryd.prog 41 #[.string s] w0 fun e w' => ∃ g, e = .returned (.iface 89 (.pointer (some ⟨g, 0, none⟩))) ∧ HH B wb w' ((g, .cells #[.string s] 91 (0, 0)) :: L0) := by
  refine c_enter (args := [.string s]) (k := 6) Tryd.func41 rfl rfl rfl (fun a S => ?_)
  refine wp_seq ?_
  refine c_region ?_
  refine l_pure S (p_assign rfl) rfl rfl rfl ?_; clear S a; intro a S
  refine l_nil ?_
  refine e_then ?_
  refine wp_seq ?_
  refine c_region ?_
  refine l_pure S (p_move rfl) rfl rfl rfl ?_; clear S a; intro a S
  refine l_pure S (p_bld (ps := [(0, .tmp 3)]) rfl (bld91_0 _)) rfl rfl rfl ?_; clear S a; intro a S
  refine l_box (cs := #[.string s]) S H rfl rfl (fun w => bx) rfl rfl rfl ?_; clear S a H; intro g1 w a H S
  refine l_pure S (p_iface rfl (fun w => mk89 w _)) rfl rfl rfl ?_; clear S a; intro a S
  refine l_pure S (p_assign rfl) rfl rfl rfl ?_; clear S a; intro a S
  refine l_nil ?_
  refine e_then ?_
  refine wp_ret ?_
  exact r_ret1 S rfl rfl ⟨g1, rfl, H⟩
theorem synErr_ (wb w0 : World) (D L0 : dc.Bk) (g : Nat) (X : List Int) (p v : Nat) (cm : Bool) (M : Nat) (sec : Int) (sk : Bool) (eb : Value) (line : Nat) (er : Value) (hD : dc.Dec TY wb g X p v cm M sec sk eb line er D) (H : HH wb.heap.size wb w0 (D ++ L0)) (o : Nat) (hop : o ≤ p) (hpv : p ≤ v) (hl : line ≤ 1000000000000) (et : TypeId) (ev : Value) : Calls Tryd.prog 40 #[.pointer (some ⟨g, 0, none⟩), .int .i64 (o : Int), .iface et ev] w0 fun e w' => ∃ ge D', e = .returned (.iface 86 (.pointer (some ⟨ge, 0, none⟩))) ∧ dc.Dec TY wb g X p v cm M (if sec = 5 then 5 else 4) sk eb line er D' ∧ HH wb.heap.size wb w' ((ge, .cells #[.int .i64 ((line : Int) - (cnt 10 ((X.take p).drop o) : Int)), .int .i64 ((o - lastp 10 (X.take o) o + 1 : Nat) : Int), .iface et ev] 88 (0, 0)) :: (D' ++ L0)) ∧ dc.Keeps D D' [] := by
  obtain ⟨rd, A, l, c, r0, mb, mr, rfl, hbuf, hrd, hr0, hvX, hdr, hsz, hpX⟩ := hD
  replace H := dc.open_.1 H
  have hlc := hbuf.1
  refine c_enter (args := [.pointer (some ⟨g, 0, none⟩), .int .i64 (o : Int), .iface et ev]) (k := 73) Tryd.func40 rfl rfl rfl (fun a S => ?_)
  refine wp_seq ?_
  refine c_region ?_
  refine l_pure S (p_assign rfl) rfl rfl rfl ?_; clear S a; intro a S
  refine l_nil ?_
  refine e_then ?_
  refine wp_seq ?_
  refine d_start (id := 1) [] 16 #[false, false, false, false, false, false, false, false, false, false, false, false, false, false, false, false] H rfl rfl rfl (fun w H => ?_)
  refine d_pure (i := 0) #[true, false, false, false, false, false, false, false, false, false, false, false, false, false, false, false] S rfl (p_move rfl) (wanted_none rfl) rfl rfl (by kernel_rfl) (fun _ _ _ h => h) ?_; clear S a; intro a S
  refine d_pure (i := 1) #[true, true, false, false, false, false, false, false, false, false, false, false, false, false, false, false] S rfl (p_nilCheck rfl) (wanted_none rfl) rfl rfl (by kernel_rfl) (fun _ _ _ h => h) ?_; clear S a; intro a S
  refine d_pure (i := 2) #[true, true, true, false, false, false, false, false, false, false, false, false, false, false, false, false] S rfl (p_fieldAddr rfl (fun w => fa54_1 w _ _)) (wanted_none rfl) rfl rfl (by kernel_rfl) (fun _ _ _ h => h) ?_; clear S a; intro a S
  refine d_read (i := 3) #[true, true, true, true, false, false, false, false, false, false, false, false, false, false, false, false] S H rfl (r_load rfl List.mem_cons_self rfl (fun w hc => ld1 ag32 hc)) (wanted_none rfl) rfl rfl (by kernel_rfl) (fun _ _ _ h => h) ?_; clear S a; intro a S
  refine d_pure (i := 4) #[true, true, true, true, true, false, false, false, false, false, false, false, false, false, false, false] S rfl (p_move rfl) (wanted_none rfl) rfl rfl (by kernel_rfl) (fun _ _ _ h => h) ?_; clear S a; intro a S
  refine d_pure (i := 5) #[true, true, true, true, true, true, false, false, false, false, false, false, false, false, false, false] S rfl (p_nilCheck rfl) (wanted_none rfl) rfl rfl (by kernel_rfl) (fun _ _ _ h => h) ?_; clear S a; intro a S
  refine d_pure (i := 6) #[true, true, true, true, true, true, true, false, false, false, false, false, false, false, false, false] S rfl (p_fieldAddr rfl (fun w => fa54_2 w _ _)) (wanted_none rfl) rfl rfl (by kernel_rfl) (fun _ _ _ h => h) ?_; clear S a; intro a S
  refine d_read (i := 7) #[true, true, true, true, true, true, true, true, false, false, false, false, false, false, false, false] S H rfl (r_load rfl List.mem_cons_self rfl (fun w hc => ld1 ag3 hc)) (wanted_none rfl) rfl rfl (by kernel_rfl) (fun _ _ _ h => h) ?_; clear S a; intro a S
  refine d_pure (i := 8) #[true, true, true, true, true, true, true, true, true, false, false, false, false, false, false, false] S rfl (p_move rfl) (wanted_none rfl) rfl rfl (by kernel_rfl) (fun _ _ _ h => h) ?_; clear S a; intro a S
  refine d_pure (i := 9) #[true, true, true, true, true, true, true, true, true, true, false, false, false, false, false, false] S rfl (p_nilCheck rfl) (wanted_none rfl) rfl rfl (by kernel_rfl) (fun _ _ _ h => h) ?_; clear S a; intro a S
  refine d_pure (i := 10) #[true, true, true, true, true, true, true, true, true, true, true, false, false, false, false, false] S rfl (p_fieldAddr rfl (fun w => fa54_2 w _ _)) (wanted_none rfl) rfl rfl (by kernel_rfl) (fun _ _ _ h => h) ?_; clear S a; intro a S
  refine d_read (i := 11) #[true, true, true, true, true, true, true, true, true, true, true, true, false, false, false, false] S H rfl (r_load rfl List.mem_cons_self rfl (fun w hc => ld1 ag3 hc)) (wanted_none rfl) rfl rfl (by kernel_rfl) (fun _ _ _ h => h) ?_; clear S a; intro a S
  refine d_pure (i := 12) #[true, true, true, true, true, true, true, true, true, true, true, true, true, false, false, false] S rfl (p_move rfl) (wanted_none rfl) rfl rfl (by kernel_rfl) (fun _ _ _ h => h) ?_; clear S a; intro a S
  refine d_pure (i := 13) #[true, true, true, true, true, true, true, true, true, true, true, true, true, true, false, false] S rfl (p_add rfl rfl (nat_add (x := r0) (y := o) (by omega))) (wanted_none rfl) rfl rfl (by kernel_rfl) (fun _ _ _ h => h) ?_; clear S a; intro a S
  refine d_pure (i := 14) #[true, true, true, true, true, true, true, true, true, true, true, true, true, true, true, false] S rfl (p_slice rfl (o_some rfl) (o_some rfl) (fun _ _ => o_none) (fun w => sl_sb (m := r0) (h := r0 + o) Tryd.underlying32 sz5 rfl rfl (by omega) (by omega) hbuf.1)) (wanted_none rfl) rfl rfl (by kernel_rfl) (fun _ _ _ h => h) ?_; clear S a; intro a S
  rw [seg_eq0 hdr (b := o) (by omega)] at S
  refine d_pure (i := 15) #[true, true, true, true, true, true, true, true, true, true, true, true, true, true, true, true] S rfl (p_assign rfl) (wanted_none rfl) rfl rfl (by kernel_rfl) (fun _ _ _ h => h) ?_; clear S a; intro a S
  refine d_done (by kernel_rfl) ?_
  refine e_then ?_
  refine wp_seq ?_
  refine c_region ?_
  refine l_pure S (p_assign rfl) rfl rfl rfl ?_; clear S a; intro a S
  refine l_nil ?_
  refine e_then ?_
  refine wp_seq ?_
  refine wp_seq ?_
  refine c_region ?_
  refine l_pure S (p_move rfl) rfl rfl rfl ?_; clear S a; intro a S
  have hs1 : SB _ _ _ (X.take o) := (seg_eq0 hdr (b := o) (by omega)) ▸ (SB.buf hbuf H).cut (m := r0) (j := r0 + o) (by omega) (by omega)
  have hcon := last_ _ _ _ (X.take o) 10 hs1 (by rw [List.length_take]; omega)
  refine l_call S rfl rfl Tryd.func60 rfl rfl (hcon) rfl rfl rfl ?_
  rintro e w ⟨rfl, hb⟩
  refine ⟨_, rfl, ?_⟩; clear S a; intro a S
  replace H := H.later hb; clear hcon hb hs1
  have hle := lastp_le 10 (X.take o) (X.take o).length
  have hlx : (X.take o).length = o := by rw [List.length_take]; omega
  have hle2 : (X.take o).length ≤ c - r0 := by rw [hlx]; omega
  revert S hle hle2
  generalize hz : lastp 10 (X.take o) (X.take o).length = z
  intro S hle hle2
  refine l_pure S (p_assign rfl) rfl rfl rfl ?_; clear S a; intro a S
  refine l_nil ?_
  refine e_then ?_
  refine wp_seq ?_
  refine c_region ?_
  refine l_pure S (p_move rfl) rfl rfl rfl ?_; clear S a; intro a S
  refine l_pure S (p_geq rfl rfl) rfl rfl rfl ?_; clear S a; intro a S
  refine l_nil ?_
  refine e_then ?_
  refine c_cond S rfl (fun bc2 => ?_) (fun bc2 => ?_)
  · skip
    have c2 := bc2
    have c2 := of_decide_eq_true c2
    refine c_region ?_
    refine l_pure S (p_move rfl) rfl rfl rfl ?_; clear S a; intro a S
    refine l_pure S (p_move rfl) rfl rfl rfl ?_; clear S a; intro a S
    refine l_pure S (p_add (r := _) rfl rfl (IntWalk.i64_in _ (by omega))) rfl rfl rfl ?_; clear S a; intro a S
    rw [show (z : Int) - 1 + 1 = ((z : Nat) : Int) by omega] at S
    refine l_pure S (p_slice rfl (o_some rfl) (fun _ _ => o_none) (fun _ _ => o_none) (fun w => sl_sb_lo Tryd.underlying32 sz5 rfl (by omega))) rfl rfl rfl ?_; clear S a; intro a S
    rw [List.length_drop, hlx] at S
    refine l_pure S (p_assign rfl) rfl rfl rfl ?_; clear S a; intro a S
    refine l_nil ?_
    refine e_then ?_
    refine wp_seq ?_
    refine c_region ?_
    refine l_pure S (p_move rfl) rfl rfl rfl ?_; clear S a; intro a S
    refine l_pure S (p_len Tryd.underlying32 rfl) rfl rfl rfl ?_; clear S a; intro a S
    refine l_pure S (p_add rfl rfl (nat_add (x := (o - z)) (y := 1) (by omega))) rfl rfl rfl ?_; clear S a; intro a S
    refine l_pure S (p_assign rfl) rfl rfl rfl ?_; clear S a; intro a S
    refine l_nil ?_
    refine e_then ?_
    refine wp_seq ?_
    refine d_start (id := 8) [] 16 #[false, false, false, false, false, false, false, false, false, false, false, false, false, false, false, false] H rfl rfl rfl (fun w H => ?_)
    refine d_pure (i := 0) #[true, false, false, false, false, false, false, false, false, false, false, false, false, false, false, false] S rfl (p_move rfl) (wanted_none rfl) rfl rfl (by kernel_rfl) (fun _ _ _ h => h) ?_; clear S a; intro a S
    refine d_pure (i := 1) #[true, true, false, false, false, false, false, false, false, false, false, false, false, false, false, false] S rfl (p_nilCheck rfl) (wanted_none rfl) rfl rfl (by kernel_rfl) (fun _ _ _ h => h) ?_; clear S a; intro a S
    refine d_pure (i := 2) #[true, true, true, false, false, false, false, false, false, false, false, false, false, false, false, false] S rfl (p_fieldAddr rfl (fun w => fa54_1 w _ _)) (wanted_none rfl) rfl rfl (by kernel_rfl) (fun _ _ _ h => h) ?_; clear S a; intro a S
    refine d_read (i := 3) #[true, true, true, true, false, false, false, false, false, false, false, false, false, false, false, false] S H rfl (r_load rfl List.mem_cons_self rfl (fun w hc => ld1 ag32 hc)) (wanted_none rfl) rfl rfl (by kernel_rfl) (fun _ _ _ h => h) ?_; clear S a; intro a S
    refine d_pure (i := 4) #[true, true, true, true, true, false, false, false, false, false, false, false, false, false, false, false] S rfl (p_move rfl) (wanted_none rfl) rfl rfl (by kernel_rfl) (fun _ _ _ h => h) ?_; clear S a; intro a S
    refine d_pure (i := 5) #[true, true, true, true, true, true, false, false, false, false, false, false, false, false, false, false] S rfl (p_nilCheck rfl) (wanted_none rfl) rfl rfl (by kernel_rfl) (fun _ _ _ h => h) ?_; clear S a; intro a S
    refine d_pure (i := 6) #[true, true, true, true, true, true, true, false, false, false, false, false, false, false, false, false] S rfl (p_fieldAddr rfl (fun w => fa54_2 w _ _)) (wanted_none rfl) rfl rfl (by kernel_rfl) (fun _ _ _ h => h) ?_; clear S a; intro a S
    refine d_read (i := 7) #[true, true, true, true, true, true, true, true, false, false, false, false, false, false, false, false] S H rfl (r_load rfl List.mem_cons_self rfl (fun w hc => ld1 ag3 hc)) (wanted_none rfl) rfl rfl (by kernel_rfl) (fun _ _ _ h => h) ?_; clear S a; intro a S
    refine d_pure (i := 8) #[true, true, true, true, true, true, true, true, true, false, false, false, false, false, false, false] S rfl (p_move rfl) (wanted_none rfl) rfl rfl (by kernel_rfl) (fun _ _ _ h => h) ?_; clear S a; intro a S
    refine d_pure (i := 9) #[true, true, true, true, true, true, true, true, true, true, false, false, false, false, false, false] S rfl (p_add rfl rfl (nat_add (x := r0) (y := o) (by omega))) (wanted_none rfl) rfl rfl (by kernel_rfl) (fun _ _ _ h => h) ?_; clear S a; intro a S
    refine d_pure (i := 10) #[true, true, true, true, true, true, true, true, true, true, true, false, false, false, false, false] S rfl (p_move rfl) (wanted_none rfl) rfl rfl (by kernel_rfl) (fun _ _ _ h => h) ?_; clear S a; intro a S
    refine d_pure (i := 11) #[true, true, true, true, true, true, true, true, true, true, true, true, false, false, false, false] S rfl (p_nilCheck rfl) (wanted_none rfl) rfl rfl (by kernel_rfl) (fun _ _ _ h => h) ?_; clear S a; intro a S
    refine d_pure (i := 12) #[true, true, true, true, true, true, true, true, true, true, true, true, true, false, false, false] S rfl (p_fieldAddr rfl (fun w => fa54_3 w _ _)) (wanted_none rfl) rfl rfl (by kernel_rfl) (fun _ _ _ h => h) ?_; clear S a; intro a S
    refine d_read (i := 13) #[true, true, true, true, true, true, true, true, true, true, true, true, true, true, false, false] S H rfl (r_load rfl List.mem_cons_self rfl (fun w hc => ld1 ag3 hc)) (wanted_none rfl) rfl rfl (by kernel_rfl) (fun _ _ _ h => h) ?_; clear S a; intro a S
    refine d_pure (i := 14) #[true, true, true, true, true, true, true, true, true, true, true, true, true, true, true, false] S rfl (p_slice rfl (o_some rfl) (o_some rfl) (fun _ _ => o_none) (fun w => sl_sb (m := r0 + o) (h := r0 + p) Tryd.underlying32 sz5 rfl rfl (by omega) (by omega) hbuf.1)) (wanted_none rfl) rfl rfl (by kernel_rfl) (fun _ _ _ h => h) ?_; clear S a; intro a S
    rw [seg_eq o hdr (b := p) (by omega)] at S
    refine d_pure (i := 15) #[true, true, true, true, true, true, true, true, true, true, true, true, true, true, true, true] S rfl (p_assign rfl) (wanted_none rfl) rfl rfl (by kernel_rfl) (fun _ _ _ h => h) ?_; clear S a; intro a S
    refine d_done (by kernel_rfl) ?_
    refine e_then ?_
    refine wp_seq ?_
    refine d_start (id := 9) [] 8 #[false, false, false, false, false, false, false, false] H rfl rfl rfl (fun w H => ?_)
    refine d_pure (i := 0) #[true, false, false, false, false, false, false, false] S rfl (p_move rfl) (wanted_none rfl) rfl rfl (by kernel_rfl) (fun _ _ _ h => h) ?_; clear S a; intro a S
    refine d_pure (i := 1) #[true, true, false, false, false, false, false, false] S rfl (p_nilCheck rfl) (wanted_none rfl) rfl rfl (by kernel_rfl) (fun _ _ _ h => h) ?_; clear S a; intro a S
    refine d_pure (i := 2) #[true, true, true, false, false, false, false, false] S rfl (p_fieldAddr rfl (fun w => fa54_8 w _ _)) (wanted_none rfl) rfl rfl (by kernel_rfl) (fun _ _ _ h => h) ?_; clear S a; intro a S
    refine d_read (i := 3) #[true, true, true, true, false, false, false, false] S H rfl (r_load rfl List.mem_cons_self rfl (fun w hc => ld1 ag2 hc)) (wanted_none rfl) rfl rfl (by kernel_rfl) (fun _ _ _ h => h) ?_; clear S a; intro a S
    refine d_pure (i := 4) #[true, true, true, true, true, false, false, false] S rfl (p_move rfl) (wanted_none rfl) rfl rfl (by kernel_rfl) (fun _ _ _ h => h) ?_; clear S a; intro a S
    have hs2 : SB _ _ _ ((X.take p).drop o) := (seg_eq o hdr (b := p) (by omega)) ▸ (SB.buf hbuf H).cut (m := r0 + o) (j := r0 + p) (by omega) (by omega)
    have hcon := count_ _ _ _ ((X.take p).drop o) 10 hs2 (by rw [List.length_drop, List.length_take]; omega)
    refine d_call (i := 5) #[true, true, true, true, true, true, false, false] S rfl rfl rfl Tryd.func38 rfl rfl (hcon) (wanted_none rfl) rfl rfl (by kernel_rfl) rfl ?_
    rintro e w ⟨rfl, hb⟩
    refine ⟨_, rfl, H.later hb, ?_⟩; replace H := H.later hb; clear hb hcon hs2; clear S a; intro a S
    have hcl := cnt_le 10 ((X.take p).drop o)
    rw [List.length_drop, List.length_take] at hcl
    refine d_pure (i := 6) #[true, true, true, true, true, true, true, false] S rfl (p_sub (r := _) rfl rfl (IntWalk.i64_in _ (by omega))) (wanted_none rfl) rfl rfl (by kernel_rfl) (fun _ _ _ h => h) ?_; clear S a; intro a S
    refine d_pure (i := 7) #[true, true, true, true, true, true, true, true] S rfl (p_assign rfl) (wanted_none rfl) rfl rfl (by kernel_rfl) (fun _ _ _ h => h) ?_; clear S a; intro a S
    refine d_done (by kernel_rfl) ?_
    refine e_then ?_
    refine wp_seq ?_
    refine wp_seq ?_
    refine c_region ?_
    refine l_pure S (p_move rfl) rfl rfl rfl ?_; clear S a; intro a S
    refine l_pure S (p_nilCheck rfl) rfl rfl rfl ?_; clear S a; intro a S
    refine l_pure S (p_fieldAddr rfl (fun w => fa54_5 w _ _)) rfl rfl rfl ?_; clear S a; intro a S
    refine l_read S H (r_load rfl List.mem_cons_self rfl (fun w hc => ld1 ag52 hc)) rfl rfl rfl ?_; clear S a; intro a S
    refine l_pure S (p_neq rfl rfl) rfl rfl rfl ?_; clear S a; intro a S
    refine l_nil ?_
    refine e_then ?_
    refine c_cond S rfl (fun bc4 => ?_) (fun bc4 => ?_)
    · skip
      have c4 := bc4
      have c4 := bne_iff_ne.1 c4
      refine c_region ?_
      refine l_pure S (p_move rfl) rfl rfl rfl ?_; clear S a; intro a S
      refine l_pure S (p_nilCheck rfl) rfl rfl rfl ?_; clear S a; intro a S
      refine l_pure S (p_fieldAddr rfl (fun w => fa54_5 w _ _)) rfl rfl rfl ?_; clear S a; intro a S
      refine l_store S H rfl rfl rfl .here (by first | decide | simp [Value.cells]) (fun w u hc hz => st1 sz52 rfl hc hz) rfl rfl ?_; clear S a H; intro w a H S
      refine l_nil ?_
      refine e_then ?_
      refine wp_seq ?_
      refine c_region ?_
      refine l_pure S (p_move rfl) rfl rfl rfl ?_; clear S a; intro a S
      refine l_pure S (p_move rfl) rfl rfl rfl ?_; clear S a; intro a S
      refine l_pure S (p_move rfl) rfl rfl rfl ?_; clear S a; intro a S
      refine l_pure S (p_bld (ps := [(0, .tmp 70), (1, .tmp 71), (2, .tmp 72)]) rfl (bld88_0_1_2 _ _ _ _)) rfl rfl rfl ?_; clear S a; intro a S
      refine l_box (cs := #[.int .i64 ((line : Int) - (cnt 10 ((X.take p).drop o) : Int)), .int .i64 ((((o - z) + 1) : Nat) : Int), .iface et ev]) S H rfl rfl (fun w => bx) rfl rfl rfl ?_; clear S a H; intro g5 w a H S
      refine l_pure S (p_iface rfl (fun w => mk86 w _)) rfl rfl rfl ?_; clear S a; intro a S
      refine l_pure S (p_assign rfl) rfl rfl rfl ?_; clear S a; intro a S
      refine l_nil ?_
      refine e_then ?_
      refine wp_ret ?_
      have hz2 : lastp 10 (X.take o) o = z := by rw [← hz, hlx]
      rw [hz2, if_neg c4]
      exact r_ret1 S rfl rfl ⟨g5, _, rfl, ⟨_, _, _, _, _, mb, mr, rfl, hbuf, hrd, hr0, hvX, hdr, hsz, hpX⟩, (by rw [List.cons_append, List.append_assoc]; exact H), dc.Keeps.head rfl⟩
    · skip
      have c4 := bc4
      have c4 := bne_eq_false_iff_eq.1 c4
      refine wp_skip ?_
      refine e_then ?_
      refine wp_seq ?_
      refine c_region ?_
      refine l_pure S (p_move rfl) rfl rfl rfl ?_; clear S a; intro a S
      refine l_pure S (p_move rfl) rfl rfl rfl ?_; clear S a; intro a S
      refine l_pure S (p_move rfl) rfl rfl rfl ?_; clear S a; intro a S
      refine l_pure S (p_bld (ps := [(0, .tmp 70), (1, .tmp 71), (2, .tmp 72)]) rfl (bld88_0_1_2 _ _ _ _)) rfl rfl rfl ?_; clear S a; intro a S
      refine l_box (cs := #[.int .i64 ((line : Int) - (cnt 10 ((X.take p).drop o) : Int)), .int .i64 ((((o - z) + 1) : Nat) : Int), .iface et ev]) S H rfl rfl (fun w => bx) rfl rfl rfl ?_; clear S a H; intro g6 w a H S
      refine l_pure S (p_iface rfl (fun w => mk86 w _)) rfl rfl rfl ?_; clear S a; intro a S
      refine l_pure S (p_assign rfl) rfl rfl rfl ?_; clear S a; intro a S
      refine l_nil ?_
      refine e_then ?_
      refine wp_ret ?_
      have hz2 : lastp 10 (X.take o) o = z := by rw [← hz, hlx]
      subst c4
      rw [hz2, if_pos rfl]
      exact r_ret1 S rfl rfl ⟨g6, _, rfl, ⟨_, _, _, _, _, mb, mr, rfl, hbuf, hrd, hr0, hvX, hdr, hsz, hpX⟩, (by rw [List.cons_append, List.append_assoc]; exact H), dc.Keeps.head rfl⟩
  · skip
    have c2 := bc2
    have c2 := of_decide_eq_false c2
    obtain rfl : z = 0 := by omega
    rw [hlx] at S
    refine c_region ?_
    refine l_pure S (p_move rfl) rfl rfl rfl ?_; clear S a; intro a S
    refine l_pure S (p_assign rfl) rfl rfl rfl ?_; clear S a; intro a S
    refine l_nil ?_
    refine e_then ?_
    refine wp_seq ?_
    refine c_region ?_
    refine l_pure S (p_move rfl) rfl rfl rfl ?_; clear S a; intro a S
    refine l_pure S (p_len Tryd.underlying32 rfl) rfl rfl rfl ?_; clear S a; intro a S
    refine l_pure S (p_add rfl rfl (nat_add (x := o) (y := 1) (by omega))) rfl rfl rfl ?_; clear S a; intro a S
    refine l_pure S (p_assign rfl) rfl rfl rfl ?_; clear S a; intro a S
    refine l_nil ?_
    refine e_then ?_
    refine wp_seq ?_
    refine d_start (id := 8) [] 16 #[false, false, false, false, false, false, false, false, false, false, false, false, false, false, false, false] H rfl rfl rfl (fun w H => ?_)
    refine d_pure (i := 0) #[true, false, false, false, false, false, false, false, false, false, false, false, false, false, false, false] S rfl (p_move rfl) (wanted_none rfl) rfl rfl (by kernel_rfl) (fun _ _ _ h => h) ?_; clear S a; intro a S
    refine d_pure (i := 1) #[true, true, false, false, false, false, false, false, false, false, false, false, false, false, false, false] S rfl (p_nilCheck rfl) (wanted_none rfl) rfl rfl (by kernel_rfl) (fun _ _ _ h => h) ?_; clear S a; intro a S
    refine d_pure (i := 2) #[true, true, true, false, false, false, false, false, false, false, false, false, false, false, false, false] S rfl (p_fieldAddr rfl (fun w => fa54_1 w _ _)) (wanted_none rfl) rfl rfl (by kernel_rfl) (fun _ _ _ h => h) ?_; clear S a; intro a S
    refine d_read (i := 3) #[true, true, true, true, false, false, false, false, false, false, false, false, false, false, false, false] S H rfl (r_load rfl List.mem_cons_self rfl (fun w hc => ld1 ag32 hc)) (wanted_none rfl) rfl rfl (by kernel_rfl) (fun _ _ _ h => h) ?_; clear S a; intro a S
    refine d_pure (i := 4) #[true, true, true, true, true, false, false, false, false, false, false, false, false, false, false, false] S rfl (p_move rfl) (wanted_none rfl) rfl rfl (by kernel_rfl) (fun _ _ _ h => h) ?_; clear S a; intro a S
    refine d_pure (i := 5) #[true, true, true, true, true, true, false, false, false, false, false, false, false, false, false, false] S rfl (p_nilCheck rfl) (wanted_none rfl) rfl rfl (by kernel_rfl) (fun _ _ _ h => h) ?_; clear S a; intro a S
    refine d_pure (i := 6) #[true, true, true, true, true, true, true, false, false, false, false, false, false, false, false, false] S rfl (p_fieldAddr rfl (fun w => fa54_2 w _ _)) (wanted_none rfl) rfl rfl (by kernel_rfl) (fun _ _ _ h => h) ?_; clear S a; intro a S
    refine d_read (i := 7) #[true, true, true, true, true, true, true, true, false, false, false, false, false, false, false, false] S H rfl (r_load rfl List.mem_cons_self rfl (fun w hc => ld1 ag3 hc)) (wanted_none rfl) rfl rfl (by kernel_rfl) (fun _ _ _ h => h) ?_; clear S a; intro a S
    refine d_pure (i := 8) #[true, true, true, true, true, true, true, true, true, false, false, false, false, false, false, false] S rfl (p_move rfl) (wanted_none rfl) rfl rfl (by kernel_rfl) (fun _ _ _ h => h) ?_; clear S a; intro a S
    refine d_pure (i := 9) #[true, true, true, true, true, true, true, true, true, true, false, false, false, false, false, false] S rfl (p_add rfl rfl (nat_add (x := r0) (y := o) (by omega))) (wanted_none rfl) rfl rfl (by kernel_rfl) (fun _ _ _ h => h) ?_; clear S a; intro a S
    refine d_pure (i := 10) #[true, true, true, true, true, true, true, true, true, true, true, false, false, false, false, false] S rfl (p_move rfl) (wanted_none rfl) rfl rfl (by kernel_rfl) (fun _ _ _ h => h) ?_; clear S a; intro a S
    refine d_pure (i := 11) #[true, true, true, true, true, true, true, true, true, true, true, true, false, false, false, false] S rfl (p_nilCheck rfl) (wanted_none rfl) rfl rfl (by kernel_rfl) (fun _ _ _ h => h) ?_; clear S a; intro a S
    refine d_pure (i := 12) #[true, true, true, true, true, true, true, true, true, true, true, true, true, false, false, false] S rfl (p_fieldAddr rfl (fun w => fa54_3 w _ _)) (wanted_none rfl) rfl rfl (by kernel_rfl) (fun _ _ _ h => h) ?_; clear S a; intro a S
    refine d_read (i := 13) #[true, true, true, true, true, true, true, true, true, true, true, true, true, true, false, false] S H rfl (r_load rfl List.mem_cons_self rfl (fun w hc => ld1 ag3 hc)) (wanted_none rfl) rfl rfl (by kernel_rfl) (fun _ _ _ h => h) ?_; clear S a; intro a S
    refine d_pure (i := 14) #[true, true, true, true, true, true, true, true, true, true, true, true, true, true, true, false] S rfl (p_slice rfl (o_some rfl) (o_some rfl) (fun _ _ => o_none) (fun w => sl_sb (m := r0 + o) (h := r0 + p) Tryd.underlying32 sz5 rfl rfl (by omega) (by omega) hbuf.1)) (wanted_none rfl) rfl rfl (by kernel_rfl) (fun _ _ _ h => h) ?_; clear S a; intro a S
    rw [seg_eq o hdr (b := p) (by omega)] at S
    refine d_pure (i := 15) #[true, true, true, true, true, true, true, true, true, true, true, true, true, true, true, true] S rfl (p_assign rfl) (wanted_none rfl) rfl rfl (by kernel_rfl) (fun _ _ _ h => h) ?_; clear S a; intro a S
    refine d_done (by kernel_rfl) ?_
    refine e_then ?_
    refine wp_seq ?_
    refine d_start (id := 9) [] 8 #[false, false, false, false, false, false, false, false] H rfl rfl rfl (fun w H => ?_)
    refine d_pure (i := 0) #[true, false, false, false, false, false, false, false] S rfl (p_move rfl) (wanted_none rfl) rfl rfl (by kernel_rfl) (fun _ _ _ h => h) ?_; clear S a; intro a S
    refine d_pure (i := 1) #[true, true, false, false, false, false, false, false] S rfl (p_nilCheck rfl) (wanted_none rfl) rfl rfl (by kernel_rfl) (fun _ _ _ h => h) ?_; clear S a; intro a S
    refine d_pure (i := 2) #[true, true, true, false, false, false, false, false] S rfl (p_fieldAddr rfl (fun w => fa54_8 w _ _)) (wanted_none rfl) rfl rfl (by kernel_rfl) (fun _ _ _ h => h) ?_; clear S a; intro a S
    refine d_read (i := 3) #[true, true, true, true, false, false, false, false] S H rfl (r_load rfl List.mem_cons_self rfl (fun w hc => ld1 ag2 hc)) (wanted_none rfl) rfl rfl (by kernel_rfl) (fun _ _ _ h => h) ?_; clear S a; intro a S
    refine d_pure (i := 4) #[true, true, true, true, true, false, false, false] S rfl (p_move rfl) (wanted_none rfl) rfl rfl (by kernel_rfl) (fun _ _ _ h => h) ?_; clear S a; intro a S
    have hs2 : SB _ _ _ ((X.take p).drop o) := (seg_eq o hdr (b := p) (by omega)) ▸ (SB.buf hbuf H).cut (m := r0 + o) (j := r0 + p) (by omega) (by omega)
    have hcon := count_ _ _ _ ((X.take p).drop o) 10 hs2 (by rw [List.length_drop, List.length_take]; omega)
    refine d_call (i := 5) #[true, true, true, true, true, true, false, false] S rfl rfl rfl Tryd.func38 rfl rfl (hcon) (wanted_none rfl) rfl rfl (by kernel_rfl) rfl ?_
    rintro e w ⟨rfl, hb⟩
    refine ⟨_, rfl, H.later hb, ?_⟩; replace H := H.later hb; clear hb hcon hs2; clear S a; intro a S
    have hcl := cnt_le 10 ((X.take p).drop o)
    rw [List.length_drop, List.length_take] at hcl
    refine d_pure (i := 6) #[true, true, true, true, true, true, true, false] S rfl (p_sub (r := _) rfl rfl (IntWalk.i64_in _ (by omega))) (wanted_none rfl) rfl rfl (by kernel_rfl) (fun _ _ _ h => h) ?_; clear S a; intro a S
    refine d_pure (i := 7) #[true, true, true, true, true, true, true, true] S rfl (p_assign rfl) (wanted_none rfl) rfl rfl (by kernel_rfl) (fun _ _ _ h => h) ?_; clear S a; intro a S
    refine d_done (by kernel_rfl) ?_
    refine e_then ?_
    refine wp_seq ?_
    refine wp_seq ?_
    refine c_region ?_
    refine l_pure S (p_move rfl) rfl rfl rfl ?_; clear S a; intro a S
    refine l_pure S (p_nilCheck rfl) rfl rfl rfl ?_; clear S a; intro a S
    refine l_pure S (p_fieldAddr rfl (fun w => fa54_5 w _ _)) rfl rfl rfl ?_; clear S a; intro a S
    refine l_read S H (r_load rfl List.mem_cons_self rfl (fun w hc => ld1 ag52 hc)) rfl rfl rfl ?_; clear S a; intro a S
    refine l_pure S (p_neq rfl rfl) rfl rfl rfl ?_; clear S a; intro a S
    refine l_nil ?_
    refine e_then ?_
    refine c_cond S rfl (fun bc8 => ?_) (fun bc8 => ?_)
    · skip
      have c8 := bc8
      have c8 := bne_iff_ne.1 c8
      refine c_region ?_
      refine l_pure S (p_move rfl) rfl rfl rfl ?_; clear S a; intro a S
      refine l_pure S (p_nilCheck rfl) rfl rfl rfl ?_; clear S a; intro a S
      refine l_pure S (p_fieldAddr rfl (fun w => fa54_5 w _ _)) rfl rfl rfl ?_; clear S a; intro a S
      refine l_store S H rfl rfl rfl .here (by first | decide | simp [Value.cells]) (fun w u hc hz => st1 sz52 rfl hc hz) rfl rfl ?_; clear S a H; intro w a H S
      refine l_nil ?_
      refine e_then ?_
      refine wp_seq ?_
      refine c_region ?_
      refine l_pure S (p_move rfl) rfl rfl rfl ?_; clear S a; intro a S
      refine l_pure S (p_move rfl) rfl rfl rfl ?_; clear S a; intro a S
      refine l_pure S (p_move rfl) rfl rfl rfl ?_; clear S a; intro a S
      refine l_pure S (p_bld (ps := [(0, .tmp 70), (1, .tmp 71), (2, .tmp 72)]) rfl (bld88_0_1_2 _ _ _ _)) rfl rfl rfl ?_; clear S a; intro a S
      refine l_box (cs := #[.int .i64 ((line : Int) - (cnt 10 ((X.take p).drop o) : Int)), .int .i64 (((o + 1) : Nat) : Int), .iface et ev]) S H rfl rfl (fun w => bx) rfl rfl rfl ?_; clear S a H; intro g9 w a H S
      refine l_pure S (p_iface rfl (fun w => mk86 w _)) rfl rfl rfl ?_; clear S a; intro a S
      refine l_pure S (p_assign rfl) rfl rfl rfl ?_; clear S a; intro a S
      refine l_nil ?_
      refine e_then ?_
      refine wp_ret ?_
      have hz2 : lastp 10 (X.take o) o = 0 := by rw [← hz, hlx]
      rw [hz2, if_neg c8]
      exact r_ret1 S rfl rfl ⟨g9, _, rfl, ⟨_, _, _, _, _, mb, mr, rfl, hbuf, hrd, hr0, hvX, hdr, hsz, hpX⟩, (by rw [List.cons_append, List.append_assoc]; exact H), dc.Keeps.head rfl⟩
    · skip
      have c8 := bc8
      have c8 := bne_eq_false_iff_eq.1 c8
      refine wp_skip ?_
      refine e_then ?_
      refine wp_seq ?_
      refine c_region ?_
      refine l_pure S (p_move rfl) rfl rfl rfl ?_; clear S a; intro a S
      refine l_pure S (p_move rfl) rfl rfl rfl ?_; clear S a; intro a S
      refine l_pure S (p_move rfl) rfl rfl rfl ?_; clear S a; intro a S
      refine l_pure S (p_bld (ps := [(0, .tmp 70), (1, .tmp 71), (2, .tmp 72)]) rfl (bld88_0_1_2 _ _ _ _)) rfl rfl rfl ?_; clear S a; intro a S
      refine l_box (cs := #[.int .i64 ((line : Int) - (cnt 10 ((X.take p).drop o) : Int)), .int .i64 (((o + 1) : Nat) : Int), .iface et ev]) S H rfl rfl (fun w => bx) rfl rfl rfl ?_; clear S a H; intro g10 w a H S
      refine l_pure S (p_iface rfl (fun w => mk86 w _)) rfl rfl rfl ?_; clear S a; intro a S
      refine l_pure S (p_assign rfl) rfl rfl rfl ?_; clear S a; intro a S
      refine l_nil ?_
      refine e_then ?_
      refine wp_ret ?_
      have hz2 : lastp 10 (X.take o) o = 0 := by rw [← hz, hlx]
      subst c8
      rw [hz2, if_pos rfl]
      exact r_ret1 S rfl rfl ⟨g10, _, rfl, ⟨_, _, _, _, _, mb, mr, rfl, hbuf, hrd, hr0, hvX, hdr, hsz, hpX⟩, (by rw [List.cons_append, List.append_assoc]; exact H), dc.Keeps.head rfl⟩
end gt
end Go.Proofs.YtbahngfpadjbhaaDoor.dec
