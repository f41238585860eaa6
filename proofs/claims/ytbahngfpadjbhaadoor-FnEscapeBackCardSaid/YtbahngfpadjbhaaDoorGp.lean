/- A decoder over a text, made. -/
import Derived.Test.YtbahngfpadjbhaaDoorGm
namespace Go.Proofs.YtbahngfpadjbhaaDoor.dec
open Go.RowKit Go.Proofs.HHW Go.Proofs.YtbahngfpadjbhaaDoorW.PrintWords
set_option linter.unusedVariables false
set_option linter.unusedSimpArgs false
namespace mk
theorem bldR (s : ByteArray) (A : Option Addr) (n c : Nat) : Tryd.prog.built 67 [(0, .string s), (1, .slice A n c), (3, .bool false)] = some #[.string s, .slice A n c, .int .i64 0, .bool false] := by kernel_rfl
theorem mkI (w : World) (gr : Nat) : (Instr.makeInterface 47 (.pointer (some ⟨gr, 0, none⟩))).run Tryd.prog w = .ok (.iface 47 (.pointer (some ⟨gr, 0, none⟩))) w := by kernel_rfl
theorem bldD (gr ge : Nat) : Tryd.prog.built 54 [(0, .iface 47 (.pointer (some ⟨gr, 0, none⟩))), (7, .slice (some ⟨ge, 0, none⟩) 0 512), (5, .int .u8 5), (8, .int .i64 1)] = some #[.iface 47 (.pointer (some ⟨gr, 0, none⟩)), .slice none 0 0, .int .i64 0, .int .i64 0, .bool false, .int .u8 5, .bool false, .slice (some ⟨ge, 0, none⟩) 0 512, .int .i64 1, .nilIface] := by kernel_rfl
theorem bldB (A : Option Addr) (n c ge : Nat) : Tryd.prog.built 54 [(1, .slice A n c), (4, .bool true), (7, .slice (some ⟨ge, 0, none⟩) 0 512), (5, .int .u8 5), (8, .int .i64 1)] = some #[.nilIface, .slice A n c, .int .i64 0, .int .i64 0, .bool true, .int .u8 5, .bool false, .slice (some ⟨ge, 0, none⟩) 0 512, .int .i64 1, .nilIface] := by kernel_rfl
theorem ag3 : aggB Tryd.prog 3 = some false := by kernel_rfl
theorem sz3 : szB Tryd.prog 3 = some 1 := by kernel_rfl
theorem in5 : (Tryd.prog.info? 5).map (fun i => (i.zero, i.size, i.bytes)) = some (some (.int .u8 0), 1, 1) := by kernel_rfl
theorem newReader_ (wb w0 : World) (L0 : dc.Bk) (s : ByteArray) (Az : Option Addr) (zs : List Int) (cz : Nat) (H : HH wb.heap.size wb w0 L0) (hC : (Kd.int .i64).C wb Az zs.length zs) (hzc : zs.length ≤ cz) (hz : zs.length ≤ 1000) (hs : s.size ≤ 1000000) : Calls Tryd.prog 21 #[.string s, .slice Az zs.length cz, .bool false] w0 fun e w' => ∃ gr mr M, e = .returned (.pointer (some ⟨gr, 0, none⟩)) ∧ dc.Rdr TY.tr TY.ti wb (.iface TY.ti (.pointer (some ⟨gr, 0, none⟩))) false (ints s) M mr ∧ HH wb.heap.size wb w' (mr ++ L0) := by
  refine c_enter (args := [.string s, .slice Az zs.length cz, .bool false]) (k := 26) Tryd.func21 rfl rfl rfl (fun a S => ?_)
  refine wp_seq ?_
  refine c_region ?_
  refine l_pure S (p_assign rfl) rfl rfl rfl ?_; clear S a; intro a S
  refine l_nil ?_
  refine e_then ?_
  refine wp_seq ?_
  refine c_region ?_
  refine l_pure S (p_assign rfl) rfl rfl rfl ?_; clear S a; intro a S
  refine l_nil ?_
  refine e_then ?_
  refine wp_seq ?_
  refine wp_seq ?_
  refine c_region ?_
  refine l_pure S (p_move rfl) rfl rfl rfl ?_; clear S a; intro a S
  refine l_pure S (p_len Tryd.underlying22 rfl) rfl rfl rfl ?_; clear S a; intro a S
  refine l_pure S (p_move rfl) rfl rfl rfl ?_; clear S a; intro a S
  refine l_nil ?_
  refine e_then ?_
  refine wp_block ?_
  refine c_loop (σ := Nat × Bool) (fun s_ a w => match s_ with | ⟨j, b⟩ => SL a 29 [] [(0, .string s), (1, .slice Az zs.length cz), (2, .bool false), (7, .bool b), (10, .slice Az zs.length cz), (11, .int .i64 (zs.length : Int)), (12, .int .i64 (j : Int))] ∧ HH (wb.heap.size) wb w L0 ∧ (j ≤ zs.length ∧ b = dc.pos zs j)) (fun s_ => match s_ with | ⟨j, b⟩ => zs.length - j) ⟨0, false⟩ ⟨S.only ⟨rfl, rfl, rfl, rfl, rfl, rfl, rfl, trivial⟩, H, ⟨Nat.zero_le _, rfl⟩⟩ ?_
  clear S a H; rintro ⟨j, b⟩ a w ⟨S, H, hinv⟩
  obtain ⟨hj, hb⟩ := hinv
  refine wp_seq ?_
  refine c_region ?_
  refine l_pure S (p_lss rfl rfl) rfl rfl rfl ?_; clear S a; intro a S
  refine l_nil ?_
  refine e_then ?_
  refine wp_seq ?_
  refine c_cond S rfl (fun c3 => ?_) (fun c3 => ?_)
  · skip
    have c3 := of_decide_eq_true c3
    refine wp_skip ?_
    refine e_then ?_
    refine wp_seq ?_
    refine wp_block ?_
    refine wp_seq ?_
    refine c_region ?_
    obtain ⟨ad, hA⟩ := C_some hC (show j < zs.length by omega)
    refine l_pure S (p_indexAddr (u := .slice (some ad) zs.length cz) (by rw [← hA]; rfl) rfl (fun w => ia_any Tryd.underlying22 sz3 (by omega) (by omega))) rfl rfl rfl ?_; clear S a; intro a S
    refine l_read S H (r_row (i := j) (hA ▸ hC) rfl (by rw [Int.toNat_natCast, Nat.mul_one]) (get_some 0 (by omega)) ag3 rfl) rfl rfl rfl ?_; clear S a; intro a S
    refine l_pure S (p_assign rfl) rfl rfl rfl ?_; clear S a; intro a S
    refine l_nil ?_
    refine e_then ?_
    refine c_region ?_
    refine l_pure S (p_move rfl) rfl rfl rfl ?_; clear S a; intro a S
    refine l_pure S (p_move rfl) rfl rfl rfl ?_; clear S a; intro a S
    refine l_split (S.of 17 rfl) (fun bc5 => ?_) (fun bc5 => ?_)
    · skip
      refine l_off S rfl rfl rfl rfl bc5 rfl rfl ?_; clear S a; intro a S
      refine l_off S rfl rfl rfl rfl bc5 rfl rfl ?_; clear S a; intro a S
      refine l_pure S (p_pick_t rfl bc5 rfl) rfl rfl rfl ?_; clear S a; intro a S
      refine l_pure S (p_assign rfl) rfl rfl rfl ?_; clear S a; intro a S
      refine l_nil ?_
      refine e_in 1 ?_
      refine e_then ?_
      refine c_region ?_
      refine l_pure S (p_add rfl rfl (nat_add (x := j) (y := 1) (by omega))) rfl rfl rfl ?_; clear S a; intro a S
      refine l_pure S (p_move rfl) rfl rfl rfl ?_; clear S a; intro a S
      refine l_nil ?_
      refine e_then ?_
      exact ⟨⟨j + 1, true⟩, ⟨S.only ⟨rfl, rfl, rfl, rfl, rfl, rfl, rfl, trivial⟩, H, ⟨by omega, by rw [dc.pos_succ (by omega), ← hb]; clear hb; simp [*]⟩⟩, (show zs.length - (j + 1) < zs.length - j from by omega)⟩
    · skip
      refine l_on S rfl rfl rfl rfl bc5 ?_
      refine l_pure S (p_move rfl) rfl rfl rfl ?_; clear S a; intro a S
      refine l_on S rfl rfl rfl rfl bc5 ?_
      refine l_pure S (p_gtr rfl rfl) rfl rfl rfl ?_; clear S a; intro a S
      refine l_pure S (p_pick_f rfl bc5 rfl) rfl rfl rfl ?_; clear S a; intro a S
      refine l_pure S (p_assign rfl) rfl rfl rfl ?_; clear S a; intro a S
      refine l_nil ?_
      refine e_in 1 ?_
      refine e_then ?_
      refine c_region ?_
      refine l_pure S (p_add rfl rfl (nat_add (x := j) (y := 1) (by omega))) rfl rfl rfl ?_; clear S a; intro a S
      refine l_pure S (p_move rfl) rfl rfl rfl ?_; clear S a; intro a S
      refine l_nil ?_
      refine e_then ?_
      exact ⟨⟨j + 1, decide (zs.getD j 0 > 0)⟩, ⟨S.only ⟨rfl, rfl, rfl, rfl, rfl, rfl, rfl, trivial⟩, H, ⟨by omega, by rw [dc.pos_succ (by omega), ← hb]; clear hb; simp [*]⟩⟩, (show zs.length - (j + 1) < zs.length - j from by omega)⟩
  · skip
    have c3 := of_decide_eq_false c3
    refine wp_exit ?_
    refine e_then_exit ?_
    refine e_then_exit ?_
    refine e_in_exit ?_
    refine e_then ?_
    refine wp_seq ?_
    refine wp_seq ?_
    refine c_region ?_
    refine l_pure S (p_move rfl) rfl rfl rfl ?_; clear S a; intro a S
    refine l_pure S (p_not rfl) rfl rfl rfl ?_; clear S a; intro a S
    refine l_nil ?_
    refine e_then ?_
    refine c_cond S rfl (fun c10 => ?_) (fun c10 => ?_)
    · skip
      replace c10 := not_eq_true_ c10
      
      refine c_region ?_
      refine l_pure S (p_assign rfl) rfl rfl rfl ?_; clear S a; intro a S
      refine l_nil ?_
      refine e_then ?_
      refine wp_seq ?_
      refine c_region ?_
      refine l_pure S (p_move rfl) rfl rfl rfl ?_; clear S a; intro a S
      refine l_pure S (p_move rfl) rfl rfl rfl ?_; clear S a; intro a S
      refine l_pure S (p_move rfl) rfl rfl rfl ?_; clear S a; intro a S
      refine l_pure S (p_bld (ps := [(0, .tmp 24), (1, .tmp 25), (3, .tmp 26)]) rfl (bldR _ _ _ _)) rfl rfl rfl ?_; clear S a; intro a S
      refine l_box (cs := #[.string s, .slice none 0 0, .int .i64 0, .bool false]) S H rfl rfl (fun w => bx) rfl rfl rfl ?_; clear S a H; intro gr w a H S
      refine l_pure S (p_assign rfl) rfl rfl rfl ?_; clear S a; intro a S
      refine l_nil ?_
      refine e_then ?_
      refine wp_ret ?_
      exact r_ret1 S rfl rfl ⟨gr, [(gr, _)], (ints s).length, rfl, .inr ⟨rfl, gr, s, none, [], 0, 0, rfl, rfl, rfl, ⟨rfl, by simp, fun h => absurd h (by simp)⟩, Nat.le_refl _, .inl ⟨rfl, Nat.le_refl _⟩, by rw [ints_len]; omega⟩, H⟩
    · skip
      replace c10 := not_eq_false_ c10
      
      refine wp_skip ?_
      refine e_then ?_
      refine wp_seq ?_
      refine c_region ?_
      refine l_pure S (p_move rfl) rfl rfl rfl ?_; clear S a; intro a S
      refine l_pure S (p_move rfl) rfl rfl rfl ?_; clear S a; intro a S
      refine l_pure S (p_move rfl) rfl rfl rfl ?_; clear S a; intro a S
      refine l_pure S (p_bld (ps := [(0, .tmp 24), (1, .tmp 25), (3, .tmp 26)]) rfl (bldR _ _ _ _)) rfl rfl rfl ?_; clear S a; intro a S
      refine l_box (cs := #[.string s, .slice Az zs.length cz, .int .i64 0, .bool false]) S H rfl rfl (fun w => bx) rfl rfl rfl ?_; clear S a H; intro gr w a H S
      refine l_pure S (p_assign rfl) rfl rfl rfl ?_; clear S a; intro a S
      refine l_nil ?_
      refine e_then ?_
      refine wp_ret ?_
      obtain rfl : j = zs.length := by omega
      have hpos : dc.pos zs zs.length = true := by rw [← hb]; simpa using c10
      obtain ⟨M, hM1, hM2⟩ := dc.start_ (k := (ints s).length) hpos (by rw [ints_len]; exact hs) hz
      exact r_ret1 S rfl rfl ⟨gr, [(gr, _)], M, rfl, .inr ⟨rfl, gr, s, Az, zs, cz, 0, rfl, rfl, rfl, hC, hzc, hM1, hM2⟩, H⟩
theorem newD_ (wb w0 : World) (L0 mr : dc.Bk) (gr M : Nat) (X : List Int) (hrd : dc.Rdr TY.tr TY.ti wb (.iface 47 (.pointer (some ⟨gr, 0, none⟩))) false X M mr) (hX : X.length ≤ 1000000) (H : HH wb.heap.size wb w0 (mr ++ L0)) : Calls Tryd.prog 20 #[.iface 47 (.pointer (some ⟨gr, 0, none⟩))] w0 fun e w' => ∃ g eb me D v cm M, e = .returned (.pointer (some ⟨g, 0, none⟩)) ∧ dc.Dec TY wb g X 0 v cm M 5 false eb 1 .nilIface D ∧ OwnB 5 eb [] me ∧ HH wb.heap.size wb w' (D ++ (me ++ L0)) := by
  refine c_enter (args := [.iface 47 (.pointer (some ⟨gr, 0, none⟩))]) (k := 6) Tryd.func20 rfl rfl rfl (fun a S => ?_)
  refine wp_seq ?_
  refine c_region ?_
  refine l_pure S (p_assign rfl) rfl rfl rfl ?_; clear S a; intro a S
  refine l_nil ?_
  refine e_then ?_
  refine wp_seq ?_
  refine c_region ?_
  refine l_pure S (p_move rfl) rfl rfl rfl ?_; clear S a; intro a S
  refine l_make (l := 0) (c := 512) S H rfl rfl rfl Tryd.underlying32 in5 (by omega) (by omega) (by omega) rfl rfl rfl ?_; clear S a H; intro ge cse w a hcse H S
  refine l_pure S (p_bld (ps := [(0, .tmp 3), (7, .tmp 4), (5, .const (.int .u8 5)), (8, .const (.int .i64 1))]) rfl (bldD _ _)) rfl rfl rfl ?_; clear S a; intro a S
  refine l_box (cs := #[.iface 47 (.pointer (some ⟨gr, 0, none⟩)), .slice none 0 0, .int .i64 0, .int .i64 0, .bool false, .int .u8 5, .bool false, .slice (some ⟨ge, 0, none⟩) 0 512, .int .i64 1, .nilIface]) S H rfl rfl (fun w => bx) rfl rfl rfl ?_; clear S a H; intro g w a H S
  refine l_pure S (p_assign rfl) rfl rfl rfl ?_; clear S a; intro a S
  refine l_nil ?_
  refine e_then ?_
  refine wp_ret ?_
  exact r_ret1 S rfl rfl ⟨g, _, [(ge, _)], _, 0, false, M, rfl, ⟨_, none, [], 0, 0, [], mr, rfl, ⟨Nat.le_refl _, ⟨fun _ => by omega, .inl ⟨rfl, rfl, rfl⟩⟩⟩, by rw [List.drop_zero]; exact hrd, rfl, Nat.zero_le _, rfl, by omega, Nat.zero_le _⟩, dc.own_new hcse, dc.open_.2 (HH.perm H (List.Perm.cons _ List.perm_middle.symm))⟩
theorem newB_ (wb w0 : World) (L0 mb : dc.Bk) (A : Option Addr) (l : List Int) (c : Nat) (hbuf : dc.Buf TY.te A l c true mb) (hX : l.length ≤ 1000000) (H : HH wb.heap.size wb w0 (mb ++ L0)) : Calls Tryd.prog 19 #[.slice A l.length c] w0 fun e w' => ∃ g eb me D v cm M, e = .returned (.pointer (some ⟨g, 0, none⟩)) ∧ dc.Dec TY wb g l 0 v cm M 5 false eb 1 .nilIface D ∧ OwnB 5 eb [] me ∧ HH wb.heap.size wb w' (D ++ (me ++ L0)) := by
  refine c_enter (args := [.slice A l.length c]) (k := 6) Tryd.func19 rfl rfl rfl (fun a S => ?_)
  refine wp_seq ?_
  refine c_region ?_
  refine l_pure S (p_assign rfl) rfl rfl rfl ?_; clear S a; intro a S
  refine l_nil ?_
  refine e_then ?_
  refine wp_seq ?_
  refine c_region ?_
  refine l_pure S (p_move rfl) rfl rfl rfl ?_; clear S a; intro a S
  refine l_make (l := 0) (c := 512) S H rfl rfl rfl Tryd.underlying32 in5 (by omega) (by omega) (by omega) rfl rfl rfl ?_; clear S a H; intro ge cse w a hcse H S
  refine l_pure S (p_bld (ps := [(1, .tmp 3), (4, .const (.bool true)), (7, .tmp 4), (5, .const (.int .u8 5)), (8, .const (.int .i64 1))]) rfl (bldB _ _ _ _)) rfl rfl rfl ?_; clear S a; intro a S
  refine l_box (cs := #[.nilIface, .slice A l.length c, .int .i64 0, .int .i64 0, .bool true, .int .u8 5, .bool false, .slice (some ⟨ge, 0, none⟩) 0 512, .int .i64 1, .nilIface]) S H rfl rfl (fun w => bx) rfl rfl rfl ?_; clear S a H; intro g w a H S
  refine l_pure S (p_assign rfl) rfl rfl rfl ?_; clear S a; intro a S
  refine l_nil ?_
  refine e_then ?_
  refine wp_ret ?_
  exact r_ret1 S rfl rfl ⟨g, _, [(ge, _)], _, l.length, true, 0, rfl, ⟨_, A, l, c, 0, mb, [], rfl, hbuf, .inl ⟨rfl, List.drop_eq_nil_of_le (Nat.le_refl _), rfl⟩, Nat.zero_add _, Nat.le_refl _, (List.take_of_length_le (Nat.le_refl _)).symm, by omega, Nat.zero_le _⟩, dc.own_new hcse, dc.open_.2 (HH.perm H (List.Perm.cons _ List.perm_middle.symm))⟩
theorem decoder_ (wb w0 : World) (L0 : dc.Bk) (s : ByteArray) (Az : Option Addr) (zs : List Int) (cz : Nat) (H : HH wb.heap.size wb w0 L0) (hC : (Kd.int .i64).C wb Az zs.length zs) (hzc : zs.length ≤ cz) (hz : zs.length ≤ 1000) (hs : s.size ≤ 1000000) : Calls Tryd.prog 12 #[.string s, .slice Az zs.length cz, .bool false] w0 fun e w' => ∃ g eb me D v cm M, e = .returned (.pointer (some ⟨g, 0, none⟩)) ∧ dc.Dec TY wb g (ints s) 0 v cm M 5 false eb 1 .nilIface D ∧ OwnB 5 eb [] me ∧ HH wb.heap.size wb w' (D ++ (me ++ L0)) := by
  refine c_enter (args := [.string s, .slice Az zs.length cz, .bool false]) (k := 16) Tryd.func12 rfl rfl rfl (fun a S => ?_)
  refine wp_seq ?_
  refine c_region ?_
  refine l_pure S (p_assign rfl) rfl rfl rfl ?_; clear S a; intro a S
  refine l_nil ?_
  refine e_then ?_
  refine wp_seq ?_
  refine wp_seq ?_
  refine c_region ?_
  refine l_pure S (p_move rfl) rfl rfl rfl ?_; clear S a; intro a S
  refine l_pure S (p_len Tryd.underlying22 rfl) rfl rfl rfl ?_; clear S a; intro a S
  refine l_pure S (p_eql rfl rfl) rfl rfl rfl ?_; clear S a; intro a S
  refine l_nil ?_
  refine e_then ?_
  refine c_cond S rfl (fun c2 => ?_) (fun c2 => ?_)
  · skip
    have c2 := eq_of_beq c2
    refine wp_seq ?_
    refine c_region ?_
    refine l_pure S (p_move rfl) rfl rfl rfl ?_; clear S a; intro a S
    refine l_bytesOwn (s := s) S H rfl rfl Tryd.underlying9 Tryd.underlying32 Tryd.underlying5 rfl rfl rfl ?_; clear S a H; intro v_ ow3 w a how3 H S
    rw [← ints_len s] at how3
    obtain ⟨Aow3, cow3, rfl, _⟩ := how3.slice
    have hcon := newB_ wb _ L0 _ _ (ints s) _ (dc.Buf.ofOwn how3) (by rw [ints_len]; exact hs) H
    refine l_call S rfl rfl Tryd.func19 rfl rfl (hcon) rfl rfl rfl ?_
    rintro e w ⟨g, eb, me, D, v, cm, M, rfl, hD, hme, hH⟩
    refine ⟨_, rfl, ?_⟩; clear S a; intro a S
    refine l_pure S (p_assign rfl) rfl rfl rfl ?_; clear S a; intro a S
    refine l_nil ?_
    refine e_then ?_
    refine wp_ret ?_
    refine e_then_ret ?_
    exact r_ret1 S rfl rfl ⟨g, eb, me, D, v, cm, M, rfl, hD, hme, hH⟩
  · skip
    have c2 := ne_of_beq_false c2
    refine wp_skip ?_
    refine e_then ?_
    refine wp_seq ?_
    refine c_region ?_
    refine l_pure S (p_move rfl) rfl rfl rfl ?_; clear S a; intro a S
    refine l_pure S (p_move rfl) rfl rfl rfl ?_; clear S a; intro a S
    refine l_pure S (p_move rfl) rfl rfl rfl ?_; clear S a; intro a S
    have hcon := newReader_ wb _ L0 s Az zs cz H hC hzc hz hs
    refine l_call S rfl rfl Tryd.func21 rfl rfl (hcon) rfl rfl rfl ?_
    rintro e w ⟨gr, mr, Mr, rfl, hrd, hH⟩
    refine ⟨_, rfl, ?_⟩; clear S a; intro a S
    clear H hcon; have H := hH; clear hH
    refine l_pure S (p_iface rfl (fun w => mkI w _)) rfl rfl rfl ?_; clear S a; intro a S
    have hcon := newD_ wb _ L0 mr gr Mr (ints s) hrd (by rw [ints_len]; exact hs) H
    refine l_call S rfl rfl Tryd.func20 rfl rfl (hcon) rfl rfl rfl ?_
    rintro e w ⟨g, eb, me, D, v, cm, M, rfl, hD, hme, hH⟩
    refine ⟨_, rfl, ?_⟩; clear S a; intro a S
    refine l_pure S (p_assign rfl) rfl rfl rfl ?_; clear S a; intro a S
    refine l_nil ?_
    refine e_then ?_
    refine wp_ret ?_
    exact r_ret1 S rfl rfl ⟨g, eb, me, D, v, cm, M, rfl, hD, hme, hH⟩
end mk
end Go.Proofs.YtbahngfpadjbhaaDoor.dec
