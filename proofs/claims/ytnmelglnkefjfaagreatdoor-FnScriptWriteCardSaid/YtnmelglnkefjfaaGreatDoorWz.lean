/- FnScriptWrite: the reference's small functions, hexadecimal digits, bounds: walked. -/
import Derived.Test.YtnmelglnkefjfaaGreatDoorProg
import Derived.Test.YtnmelglnkefjfaaGreatDoorWr
import Derived.Test.YtnmelglnkefjfaaGreatDoorDh
import Derived.Test.YtnmelglnkefjfaaGreatDoorShad
namespace Go.Proofs.YtnmelglnkefjfaaGreatDoor.wr
open Go.RowKit Go.Proofs.HHW Go.Proofs.YtnmelglnkefjfaaGreatDoorW.PrintWords
set_option linter.unusedVariables false
set_option linter.unusedSimpArgs false
namespace rf
theorem ag5 : aggB Tryz.prog 5 = some false := by kernel_rfl
theorem ag9 : aggB Tryz.prog 9 = some false := by kernel_rfl
theorem sz5 : szB Tryz.prog 5 = some 1 := by kernel_rfl
theorem sz9 : szB Tryz.prog 9 = some 1 := by kernel_rfl
theorem zv5 : zvB Tryz.prog 5 = some (.int .u8 0) := by kernel_rfl
theorem in5 : (Tryz.prog.info? 5).map (fun i => (i.zero, i.size, i.bytes)) = some (some (.int .u8 0), 1, 1) := by kernel_rfl


theorem nat_quoU {x y : Nat} (h : x ≤ 9223372036854775807) : IntKind.u64.wrap (Int.tdiv (x : Int) (y : Int)) = ((x / y : Nat) : Int) := by
  have e : Int.tdiv (x : Int) (y : Int) = ((x / y : Nat) : Int) := by
    rw [Int.tdiv_eq_ediv_of_nonneg (by omega)]
    exact (Int.natCast_ediv x y).symm
  rw [e, IntKind.wrap_u64]
  have := Nat.div_le_self x y
  generalize x / y = q at this ⊢
  omega
theorem litB (e g : Nat) (v : Int) : OwnB e (.slice (some ⟨g, 0, none⟩) 1 1) [v] [(g, .cells #[.int .u8 v] e (0, 0))] := ⟨rfl, .inr ⟨g, _, 1, (0, 0), rfl, Nat.le_refl _, rfl, rfl, thaw0 _, fun j hj => by simp⟩⟩
theorem shr16 (x : Int) : x.fdiv (2 ^ (min (4 : Int).toNat IntKind.u8.bits)) = x / 16 := by
  rw [show (2 : Int) ^ (min (4 : Int).toNat IntKind.u8.bits) = 16 from rfl]
  exact Int.fdiv_eq_ediv_of_nonneg _ (by decide)
theorem ia_off {P : Program} {w : World} {t e : TypeId} {k : IntKind} {g o n c i : Nat} (hu : P.underlying t = some (.slice e)) (hs : szB P e = some 1) (h : i < n) : (Instr.indexAt t (.slice (some ⟨g, o, none⟩) n c) (.int k (i : Int))).run P w = .ok (.pointer (some ⟨g, o + i, none⟩)) w := by
  have := ia_slice (g := g) (o := o) (c := c) (w := w) hu hs (k := k) (i := (i : Int)) (n := n) (by omega) (by omega)
  rw [Int.toNat_natCast, Nat.mul_one] at this
  exact this
theorem ia_own {P : Program} {w : World} {t e : TypeId} {k : IntKind} {g n c i : Nat} (hu : P.underlying t = some (.slice e)) (hs : szB P e = some 1) (h : i < n) : (Instr.indexAt t (.slice (some ⟨g, 0, none⟩) n c) (.int k (i : Int))).run P w = .ok (.pointer (some ⟨g, i, none⟩)) w := by
  have := ia_off (g := g) (o := 0) (c := c) (w := w) (k := k) hu hs h
  rwa [Nat.zero_add] at this
theorem dig_ (wb w0 : World) (B : Nat) (L0 : dc.Bk) (u : Nat) (hu : u ≤ 1000000) (H : HH B wb w0 L0) : Calls Tryz.prog 20 #[.int .u64 (u : Int)] w0 fun e w' => e = .returned (.string (strOfNums (wq.dec u))) ∧ HH B wb w' L0 := by
  refine c_enter (args := [.int .u64 (u : Int)]) (k := 23) Tryz.func20 rfl rfl rfl (fun a S => ?_)
  refine wp_seq ?_
  refine c_region ?_
  refine l_pure S (p_assign rfl) rfl rfl rfl ?_; clear S a; intro a S
  refine l_nil ?_
  refine e_then ?_
  refine wp_seq ?_
  refine c_region ?_
  refine l_pure S (p_move rfl) rfl rfl rfl ?_; clear S a; intro a S
  refine l_pure S (p_rem rfl rfl (by omega) (nat_rem u 10)) rfl rfl rfl ?_; clear S a; intro a S
  refine l_pure S (p_add rfl rfl (nat_addU (x := 48) (y := (u % 10)) (by omega))) rfl rfl rfl ?_; clear S a; intro a S
  refine l_pure S (p_conv rfl (fun w => cv_int Tryz.underlying53 Tryz.underlying5 (r := ((48 + u % 10 : Nat) : Int)) (by rw [IntKind.wrap_u8]; omega))) rfl rfl rfl ?_; clear S a; intro a S
  refine l_lit [(.tmp 7)] S H rfl rfl Tryz.underlying39 sz5 zv5 rfl rfl (by simp [Value.cells]) rfl rfl rfl ?_; clear S a H; intro g1 w a H S
  refine l_pure S (p_assign rfl) rfl rfl rfl ?_; clear S a; intro a S
  refine l_nil ?_
  refine e_then ?_
  refine wp_seq ?_
  refine wp_seq ?_
  refine c_region ?_
  refine l_pure S (p_move rfl) rfl rfl rfl ?_; clear S a; intro a S
  refine l_pure S (p_quo rfl rfl (by decide) (nat_quoU (x := u) (y := 10) (by omega))) rfl rfl rfl ?_; clear S a; intro a S
  refine l_pure S (p_assign rfl) rfl rfl rfl ?_; clear S a; intro a S
  refine l_nil ?_
  refine e_then ?_
  refine wp_block ?_
  refine c_loop (σ := Nat × List Int × Option Addr × Nat × dc.Bk) (fun s_ a w => match s_ with | ⟨m, X, A, c, ow⟩ => SL a 24 [] [(0, .int .u64 (m : Int)), (3, .slice A X.length c)] ∧ HH (B) wb w (ow ++ L0) ∧ (m ≤ 1000000 ∧ wq.dec u = px.dz m ++ X ∧ 0 < X.length ∧ OwnB 5 (.slice A X.length c) X ow)) (fun s_ => match s_ with | ⟨m, X, A, c, ow⟩ => m) ⟨u / 10, [((48 + u % 10 : Nat) : Int)], some ⟨g1, 0, none⟩, 1, [(g1, .cells #[.int .u8 ((48 + u % 10 : Nat) : Int)] 5 (0, 0))]⟩ ⟨S.only ⟨rfl, rfl, trivial⟩, H, ⟨by omega, px.dz_step u, by simp, litB _ _ _⟩⟩ ?_
  clear S a H; rintro ⟨m, X, A, c, ow⟩ a w ⟨S, H, hinv⟩
  obtain ⟨hm, hdec, hX0, hown⟩ := hinv
  have hXl : X.length ≤ 7 := by have h1 := px.dec_le hu; rw [hdec, List.length_append] at h1; omega
  refine wp_seq ?_
  refine wp_seq ?_
  refine c_region ?_
  refine l_pure S (p_move rfl) rfl rfl rfl ?_; clear S a; intro a S
  refine l_pure S (p_gtr rfl rfl) rfl rfl rfl ?_; clear S a; intro a S
  refine l_nil ?_
  refine e_then ?_
  refine c_cond S rfl (fun bc3 => ?_) (fun bc3 => ?_)
  · skip
    have c3 := bc3
    have c3 := of_decide_eq_true c3
    refine wp_skip ?_
    refine e_then ?_
    refine wp_seq ?_
    refine wp_block ?_
    refine c_region ?_
    refine l_pure S (p_move rfl) rfl rfl rfl ?_; clear S a; intro a S
    refine l_pure S (p_rem rfl rfl (by omega) (nat_rem m 10)) rfl rfl rfl ?_; clear S a; intro a S
    refine l_pure S (p_add rfl rfl (nat_addU (x := 48) (y := (m % 10)) (by omega))) rfl rfl rfl ?_; clear S a; intro a S
    refine l_pure S (p_conv rfl (fun w => cv_int Tryz.underlying53 Tryz.underlying5 (r := ((48 + m % 10 : Nat) : Int)) (by rw [IntKind.wrap_u8]; omega))) rfl rfl rfl ?_; clear S a; intro a S
    refine l_lit [(.tmp 18)] S H rfl rfl Tryz.underlying39 sz5 zv5 rfl rfl (by simp [Value.cells]) rfl rfl rfl ?_; clear S a H; intro g4 w a H S
    refine l_pure S (p_move rfl) rfl rfl rfl ?_; clear S a; intro a S
    obtain ⟨gr, cr, fr, rfl, rfl, hlc, hcr, hth, hrow⟩ := rp.own_open hown hX0
    replace H : HH B wb _ ((g4, .cells #[.int .u8 ((48 + m % 10 : Nat) : Int)] 5 (0, 0)) :: (gr, .cells cr 5 fr) :: L0) := H
    refine l_ownB [] (l := [((48 + m % 10 : Nat) : Int)]) (r := X) (ow := [(g4, .cells #[.int .u8 ((48 + m % 10 : Nat) : Int)] 5 (0, 0))]) (L := (gr, .cells cr 5 fr) :: L0) S H rfl rfl rfl (litB _ _ _) (src_rb (rp.row_rb H (List.mem_cons_of_mem _ List.mem_cons_self) hrow) Tryz.underlying39) Tryz.underlying39 in5 rfl (by simp only [List.length_cons, List.length_nil]; omega) (by decide) rfl rfl rfl ?_; clear S a H; intro A' c' ow' w a hown' H S
    replace H : HH B wb w (ow' ++ ((gr, .cells cr 5 fr) :: L0)) := H
    replace H : HH B wb w (ow' ++ L0) := H.sub (List.Sublist.append (.refl _) (.cons _ (.refl _)))
    refine l_pure S (p_assign rfl) rfl rfl rfl ?_; clear S a; intro a S
    refine l_nil ?_
    refine e_in 1 ?_
    refine e_then ?_
    refine c_region ?_
    refine l_pure S (p_move rfl) rfl rfl rfl ?_; clear S a; intro a S
    refine l_pure S (p_quo rfl rfl (by decide) (nat_quoU (x := m) (y := 10) (by omega))) rfl rfl rfl ?_; clear S a; intro a S
    refine l_pure S (p_assign rfl) rfl rfl rfl ?_; clear S a; intro a S
    refine l_nil ?_
    refine e_then ?_
    exact ⟨⟨m / 10, [((48 + m % 10 : Nat) : Int)] ++ X, A', c', ow'⟩, ⟨S.only ⟨rfl, rfl, trivial⟩, H, ⟨by omega, by rw [hdec, px.dz_pos (show m ≠ 0 by omega), List.append_assoc], by simp, hown'⟩⟩, by show m / 10 < m; omega⟩
  · skip
    have c3 := bc3
    have c3 := of_decide_eq_false c3
    refine wp_exit ?_
    refine e_then_exit ?_
    refine e_then_exit ?_
    refine e_in_exit ?_
    refine e_then ?_
    refine wp_seq ?_
    refine c_region ?_
    refine l_pure S (p_move rfl) rfl rfl rfl ?_; clear S a; intro a S
    obtain rfl : m = 0 := by omega
    rw [show px.dz 0 = [] from rfl, List.nil_append] at hdec
    subst hdec
    refine l_read S H (r_str (l := wq.dec u) rfl Tryz.underlying39 Tryz.underlying5 Tryz.underlying9 (fun w H => Own.bytes hown H (by omega))) rfl rfl rfl ?_; clear S a; intro a S
    refine l_pure S (p_assign rfl) rfl rfl rfl ?_; clear S a; intro a S
    refine l_nil ?_
    refine e_then ?_
    refine wp_ret ?_
    exact r_ret1 S rfl rfl ⟨rfl, H.bring⟩
set_option maxRecDepth 20000 in
theorem blob_ (wb w0 : World) (B : Nat) (L0 : dc.Bk) (k : Int) (s : ByteArray) (hs : s.size ≤ 1000000) (H : HH B wb w0 L0) : Calls Tryz.prog 21 #[.int .u8 k, .string s] w0 fun e w' => e = .returned (.string (strOfNums (px.blob k s))) ∧ HH B wb w' L0 := by
  refine c_enter (args := [.int .u8 k, .string s]) (k := 15) Tryz.func21 rfl rfl rfl (fun a S => ?_)
  refine wp_seq ?_
  refine c_region ?_
  refine l_pure S (p_assign rfl) rfl rfl rfl ?_; clear S a; intro a S
  refine l_nil ?_
  refine e_then ?_
  refine wp_seq ?_
  refine d_start (id := 1) [] 13 #[false, false, false, false, false, false, false, false, false, false, false, false, false] H rfl rfl rfl (fun w H => ?_)
  refine d_pure (i := 0) #[true, false, false, false, false, false, false, false, false, false, false, false, false] S rfl (p_move rfl) (wanted_none rfl) rfl rfl (by kernel_rfl) (fun _ _ _ h => h) ?_; clear S a; intro a S
  refine d_pure (i := 3) #[true, false, false, true, false, false, false, false, false, false, false, false, false] S rfl (p_move rfl) (wanted_none rfl) rfl rfl (by kernel_rfl) (fun _ _ _ h => h) ?_; clear S a; intro a S
  refine d_pure (i := 4) #[true, false, false, true, true, false, false, false, false, false, false, false, false] S rfl (p_lens Tryz.underlying9 rfl) (wanted_none rfl) rfl rfl (by kernel_rfl) (fun _ _ _ h => h) ?_; clear S a; intro a S
  refine d_pure (i := 5) #[true, false, false, true, true, true, false, false, false, false, false, false, false] S rfl (p_conv rfl (fun w => cv_int (Tryz.underlying3) (Tryz.underlying53) (nat_toU (x := s.size) (by omega)))) (wanted_none rfl) rfl rfl (by kernel_rfl) (fun _ _ _ h => h) ?_; clear S a; intro a S
  refine d_pure (i := 9) #[true, false, false, true, true, true, false, false, false, true, false, false, false] S rfl (p_move rfl) (wanted_none rfl) rfl rfl (by kernel_rfl) (fun _ _ _ h => h) ?_; clear S a; intro a S
  refine Go.Proofs.YtnmelglnkefjfaaGreatDoorW.PrintLast.two_ (i := 1) (j := 6) #[true, true, false, true, true, true, false, false, false, true, false, false, false] #[true, false, false, true, true, true, true, false, false, true, false, false, false] rfl rfl rfl rfl (by kernel_rfl) (by simp) (by simp) (fun K hK => ?_) (fun K hK => ?_)
  · skip
    refine e_lit (i := 1) [(.tmp 5)] hK rfl S (.refl _) H rfl rfl Tryz.underlying39 sz5 zv5 rfl rfl (by simp [Value.cells]) (wanted_none rfl) rfl rfl ?_; clear S a H; intro g1 w a H S
    refine Go.Proofs.YtnmelglnkefjfaaGreatDoorW.PrintLast.two_ (i := 2) (j := 6) #[true, true, true, true, true, true, false, false, false, true, false, false, false] #[true, true, false, true, true, true, true, false, false, true, false, false, false] rfl rfl rfl rfl (by kernel_rfl) (by simp) (by simp) (fun K hK => ?_) (fun K hK => ?_)
    · skip
      refine e_read (i := 2) hK rfl S (.cons _ (.refl _)) H (r_str (l := [k]) rfl Tryz.underlying39 Tryz.underlying5 Tryz.underlying9 (fun w H => RB.C (RB.of H List.mem_cons_self (fun i v hi => by rcases i with _ | i <;> simp_all)) (show 1 ≤ 9223372036854775807 by decide))) (wanted_none rfl) rfl rfl ?_; clear S a; intro a S
      have hcon := dig_ wb _ B _ s.size hs H
      refine d_call (i := 6) #[true, true, true, true, true, true, true, false, false, true, false, false, false] S rfl rfl rfl Tryz.func20 rfl rfl hcon (wanted_none rfl) rfl rfl (by kernel_rfl) rfl ?_
      rintro e w ⟨rfl, hH⟩
      refine ⟨_, rfl, hH.sub (.cons _ (.refl _)), ?_⟩; clear S a; intro a S; clear H hcon; have H := hH; clear hH
      refine d_pure (i := 7) #[true, true, true, true, true, true, true, true, false, true, false, false, false] S rfl (p_sadd rfl rfl (by have := px.dec_le hs; have h1 : (strOfNums [k]).size = 1 := strOfNums_size _; have h2 : (strOfNums (wq.dec s.size)).size = (wq.dec s.size).length := strOfNums_size _; have h3 : (⟨#[13, 10]⟩ : ByteArray).size = 2 := rfl; simp only [ByteArray.size_append]; omega)) (wanted_none rfl) rfl rfl (by kernel_rfl) (fun _ _ _ h => h) ?_; clear S a; intro a S
      refine d_pure (i := 8) #[true, true, true, true, true, true, true, true, true, true, false, false, false] S rfl (p_sadd rfl rfl (by have := px.dec_le hs; have h1 : (strOfNums [k]).size = 1 := strOfNums_size _; have h2 : (strOfNums (wq.dec s.size)).size = (wq.dec s.size).length := strOfNums_size _; have h3 : (⟨#[13, 10]⟩ : ByteArray).size = 2 := rfl; simp only [ByteArray.size_append]; omega)) (wanted_none rfl) rfl rfl (by kernel_rfl) (fun _ _ _ h => h) ?_; clear S a; intro a S
      refine d_pure (i := 10) #[true, true, true, true, true, true, true, true, true, true, true, false, false] S rfl (p_sadd rfl rfl (by have := px.dec_le hs; have h1 : (strOfNums [k]).size = 1 := strOfNums_size _; have h2 : (strOfNums (wq.dec s.size)).size = (wq.dec s.size).length := strOfNums_size _; have h3 : (⟨#[13, 10]⟩ : ByteArray).size = 2 := rfl; simp only [ByteArray.size_append]; omega)) (wanted_none rfl) rfl rfl (by kernel_rfl) (fun _ _ _ h => h) ?_; clear S a; intro a S
      refine d_pure (i := 11) #[true, true, true, true, true, true, true, true, true, true, true, true, false] S rfl (p_sadd rfl rfl (by have := px.dec_le hs; have h1 : (strOfNums [k]).size = 1 := strOfNums_size _; have h2 : (strOfNums (wq.dec s.size)).size = (wq.dec s.size).length := strOfNums_size _; have h3 : (⟨#[13, 10]⟩ : ByteArray).size = 2 := rfl; simp only [ByteArray.size_append]; omega)) (wanted_none rfl) rfl rfl (by kernel_rfl) (fun _ _ _ h => h) ?_; clear S a; intro a S
      refine d_pure (i := 12) #[true, true, true, true, true, true, true, true, true, true, true, true, true] S rfl (p_assign rfl) (wanted_none rfl) rfl rfl (by kernel_rfl) (fun _ _ _ h => h) ?_; clear S a; intro a S
      refine d_done (by kernel_rfl) ?_
      refine e_then ?_
      refine wp_ret ?_
      exact r_ret1 S rfl rfl ⟨by rw [px.blob_str], H.tail⟩
    · skip
      have hcon := dig_ wb _ B ((g1, .cells #[.int .u8 k] 5 (0, 0)) :: L0) s.size hs H
      refine e_call (i := 6) hK rfl S rfl rfl Tryz.func20 rfl rfl hcon (wanted_none rfl) rfl rfl ?_
      rintro e w ⟨rfl, hH⟩
      refine ⟨_, rfl, hH.sub (.cons _ (.refl _)), ?_⟩; clear S a; intro a S; clear H hcon; have H := hH; clear hH
      refine Go.Proofs.YtnmelglnkefjfaaGreatDoorW.PrintLast.one_ (i := 2) #[true, true, true, true, true, true, true, false, false, true, false, false, false] rfl rfl (by kernel_rfl) (by simp) (fun K hK => ?_)
      refine e_read (i := 2) hK rfl S (.cons _ (.refl _)) H (r_str (l := [k]) rfl Tryz.underlying39 Tryz.underlying5 Tryz.underlying9 (fun w H => RB.C (RB.of H List.mem_cons_self (fun i v hi => by rcases i with _ | i <;> simp_all)) (show 1 ≤ 9223372036854775807 by decide))) (wanted_none rfl) rfl rfl ?_; clear S a; intro a S
      refine d_pure (i := 7) #[true, true, true, true, true, true, true, true, false, true, false, false, false] S rfl (p_sadd rfl rfl (by have := px.dec_le hs; have h1 : (strOfNums [k]).size = 1 := strOfNums_size _; have h2 : (strOfNums (wq.dec s.size)).size = (wq.dec s.size).length := strOfNums_size _; have h3 : (⟨#[13, 10]⟩ : ByteArray).size = 2 := rfl; simp only [ByteArray.size_append]; omega)) (wanted_none rfl) rfl rfl (by kernel_rfl) (fun _ _ _ h => h) ?_; clear S a; intro a S
      refine d_pure (i := 8) #[true, true, true, true, true, true, true, true, true, true, false, false, false] S rfl (p_sadd rfl rfl (by have := px.dec_le hs; have h1 : (strOfNums [k]).size = 1 := strOfNums_size _; have h2 : (strOfNums (wq.dec s.size)).size = (wq.dec s.size).length := strOfNums_size _; have h3 : (⟨#[13, 10]⟩ : ByteArray).size = 2 := rfl; simp only [ByteArray.size_append]; omega)) (wanted_none rfl) rfl rfl (by kernel_rfl) (fun _ _ _ h => h) ?_; clear S a; intro a S
      refine d_pure (i := 10) #[true, true, true, true, true, true, true, true, true, true, true, false, false] S rfl (p_sadd rfl rfl (by have := px.dec_le hs; have h1 : (strOfNums [k]).size = 1 := strOfNums_size _; have h2 : (strOfNums (wq.dec s.size)).size = (wq.dec s.size).length := strOfNums_size _; have h3 : (⟨#[13, 10]⟩ : ByteArray).size = 2 := rfl; simp only [ByteArray.size_append]; omega)) (wanted_none rfl) rfl rfl (by kernel_rfl) (fun _ _ _ h => h) ?_; clear S a; intro a S
      refine d_pure (i := 11) #[true, true, true, true, true, true, true, true, true, true, true, true, false] S rfl (p_sadd rfl rfl (by have := px.dec_le hs; have h1 : (strOfNums [k]).size = 1 := strOfNums_size _; have h2 : (strOfNums (wq.dec s.size)).size = (wq.dec s.size).length := strOfNums_size _; have h3 : (⟨#[13, 10]⟩ : ByteArray).size = 2 := rfl; simp only [ByteArray.size_append]; omega)) (wanted_none rfl) rfl rfl (by kernel_rfl) (fun _ _ _ h => h) ?_; clear S a; intro a S
      refine d_pure (i := 12) #[true, true, true, true, true, true, true, true, true, true, true, true, true] S rfl (p_assign rfl) (wanted_none rfl) rfl rfl (by kernel_rfl) (fun _ _ _ h => h) ?_; clear S a; intro a S
      refine d_done (by kernel_rfl) ?_
      refine e_then ?_
      refine wp_ret ?_
      exact r_ret1 S rfl rfl ⟨by rw [px.blob_str], H.tail⟩
  · skip
    have hcon := dig_ wb _ B L0 s.size hs H
    refine e_call (i := 6) hK rfl S rfl rfl Tryz.func20 rfl rfl hcon (wanted_none rfl) rfl rfl ?_
    rintro e w ⟨rfl, hH⟩
    refine ⟨_, rfl, hH.sub (.refl _), ?_⟩; clear S a; intro a S; clear H hcon; have H := hH; clear hH
    refine d_lit (i := 1) [(.tmp 5)] #[true, true, false, true, true, true, true, false, false, true, false, false, false] S (.refl _) H rfl rfl rfl Tryz.underlying39 sz5 zv5 rfl rfl (by simp [Value.cells]) (wanted_none rfl) rfl rfl (by kernel_rfl) rfl ?_; clear S a H; intro g2 w a H S
    refine Go.Proofs.YtnmelglnkefjfaaGreatDoorW.PrintLast.one_ (i := 2) #[true, true, true, true, true, true, true, false, false, true, false, false, false] rfl rfl (by kernel_rfl) (by simp) (fun K hK => ?_)
    refine e_read (i := 2) hK rfl S (.cons _ (.refl _)) H (r_str (l := [k]) rfl Tryz.underlying39 Tryz.underlying5 Tryz.underlying9 (fun w H => RB.C (RB.of H List.mem_cons_self (fun i v hi => by rcases i with _ | i <;> simp_all)) (show 1 ≤ 9223372036854775807 by decide))) (wanted_none rfl) rfl rfl ?_; clear S a; intro a S
    refine d_pure (i := 7) #[true, true, true, true, true, true, true, true, false, true, false, false, false] S rfl (p_sadd rfl rfl (by have := px.dec_le hs; have h1 : (strOfNums [k]).size = 1 := strOfNums_size _; have h2 : (strOfNums (wq.dec s.size)).size = (wq.dec s.size).length := strOfNums_size _; have h3 : (⟨#[13, 10]⟩ : ByteArray).size = 2 := rfl; simp only [ByteArray.size_append]; omega)) (wanted_none rfl) rfl rfl (by kernel_rfl) (fun _ _ _ h => h) ?_; clear S a; intro a S
    refine d_pure (i := 8) #[true, true, true, true, true, true, true, true, true, true, false, false, false] S rfl (p_sadd rfl rfl (by have := px.dec_le hs; have h1 : (strOfNums [k]).size = 1 := strOfNums_size _; have h2 : (strOfNums (wq.dec s.size)).size = (wq.dec s.size).length := strOfNums_size _; have h3 : (⟨#[13, 10]⟩ : ByteArray).size = 2 := rfl; simp only [ByteArray.size_append]; omega)) (wanted_none rfl) rfl rfl (by kernel_rfl) (fun _ _ _ h => h) ?_; clear S a; intro a S
    refine d_pure (i := 10) #[true, true, true, true, true, true, true, true, true, true, true, false, false] S rfl (p_sadd rfl rfl (by have := px.dec_le hs; have h1 : (strOfNums [k]).size = 1 := strOfNums_size _; have h2 : (strOfNums (wq.dec s.size)).size = (wq.dec s.size).length := strOfNums_size _; have h3 : (⟨#[13, 10]⟩ : ByteArray).size = 2 := rfl; simp only [ByteArray.size_append]; omega)) (wanted_none rfl) rfl rfl (by kernel_rfl) (fun _ _ _ h => h) ?_; clear S a; intro a S
    refine d_pure (i := 11) #[true, true, true, true, true, true, true, true, true, true, true, true, false] S rfl (p_sadd rfl rfl (by have := px.dec_le hs; have h1 : (strOfNums [k]).size = 1 := strOfNums_size _; have h2 : (strOfNums (wq.dec s.size)).size = (wq.dec s.size).length := strOfNums_size _; have h3 : (⟨#[13, 10]⟩ : ByteArray).size = 2 := rfl; simp only [ByteArray.size_append]; omega)) (wanted_none rfl) rfl rfl (by kernel_rfl) (fun _ _ _ h => h) ?_; clear S a; intro a S
    refine d_pure (i := 12) #[true, true, true, true, true, true, true, true, true, true, true, true, true] S rfl (p_assign rfl) (wanted_none rfl) rfl rfl (by kernel_rfl) (fun _ _ _ h => h) ?_; clear S a; intro a S
    refine d_done (by kernel_rfl) ?_
    refine e_then ?_
    refine wp_ret ?_
    exact r_ret1 S rfl rfl ⟨by rw [px.blob_str], H.tail⟩
theorem blobs_takeN {l : List ByteArray} (hl : l.length ≤ 1000) (h : ∀ s ∈ l, s.size ≤ 10000) (i : Nat) : (px.blobs (l.take i)).length ≤ 10012000 := by
  have h1 := px.blobs_len (l := l.take i) (m := 10000) (by omega) (fun s hs => h s (List.mem_of_mem_take hs))
  have h2 : (l.take i).length ≤ 1000 := by rw [List.length_take]; omega
  have h3 := Nat.mul_le_mul_right 10012 h2
  omega
/-- A text out of a row that is read in every later world. -/
theorem r_rowB {P : Program} {F : List (Nat × Value)} {B : Nat} {wb : World} {L : dc.Bk} {t : TypeId} {x : Operand} {ad : Addr} {n i j : Nat} {xs : List ByteArray} {v : ByteArray} (hC : ∀ w, Below B wb w → Kd.string.C w (some ad) n xs) (hx : ev F x = some (.pointer (some (ad.add j)))) (hj : j = i) (hi : xs[i]? = some v) (ha : aggB P t = some false) : Reads P F B wb L (.load t x) (.string v) := by
  refine r_loads hx (fun w H => ?_)
  obtain ⟨hl, _, hc0⟩ := hC w H.below
  have hlt := (List.getElem?_eq_some_iff.1 hi).1
  obtain ⟨ad', he, hc⟩ := hc0 (by omega)
  injection he with he
  subst he
  obtain ⟨cs, hlen, hK, hcell⟩ := hc i v hi
  have hK' : cs = [Value.string v] := hK
  subst hK'
  have := hcell 0 (Value.string v) rfl
  subst hj
  rw [show Kd.string.sz = 1 from rfl] at this
  have h2 : w.cell? (ad.add j) = some (Value.string v) := by simpa using this
  exact ld1 ha h2
theorem texts_ (wb w0 : World) (B : Nat) (L0 : dc.Bk) (A : Option Addr) (c : Nat) (l : List ByteArray) (hC : ∀ w, Below B wb w → Kd.string.C w A l.length l) (hl : l.length ≤ 1000) (hs : ∀ s ∈ l, s.size ≤ 10000) (H : HH B wb w0 L0) : Calls Tryz.prog 8 #[.slice A l.length c] w0 fun e w' => e = .returned (.string (strOfNums (px.texts l))) ∧ HH B wb w' L0 := by
  refine c_enter (args := [.slice A l.length c]) (k := 23) Tryz.func8 rfl rfl rfl (fun a S => ?_)
  refine wp_seq ?_
  refine c_region ?_
  refine l_pure S (p_assign rfl) rfl rfl rfl ?_; clear S a; intro a S
  refine l_nil ?_
  refine e_then ?_
  refine wp_seq ?_
  refine c_region ?_
  refine l_pure S (p_move rfl) rfl rfl rfl ?_; clear S a; intro a S
  refine l_pure S (p_len Tryz.underlying22 rfl) rfl rfl rfl ?_; clear S a; intro a S
  refine l_pure S (p_conv rfl (fun w => cv_int (Tryz.underlying3) (Tryz.underlying53) (nat_toU (x := l.length) (by omega)))) rfl rfl rfl ?_; clear S a; intro a S
  have hcon := dig_ wb _ B _ l.length (by omega) H
  refine l_call S rfl rfl Tryz.func20 rfl rfl (hcon) rfl rfl rfl ?_
  rintro e w ⟨rfl, hH⟩
  refine ⟨_, rfl, ?_⟩; clear S a; intro a S
  clear H hcon; have H := hH; clear hH
  refine l_pure S (p_sadd rfl rfl (by have := px.dec_le (u := l.length) (by omega); have h1 : (⟨#[42]⟩ : ByteArray).size = 1 := rfl; have h3 : (⟨#[13, 10]⟩ : ByteArray).size = 2 := rfl; have h2 : (strOfNums (wq.dec l.length)).size = (wq.dec l.length).length := strOfNums_size _; simp only [ByteArray.size_append]; omega)) rfl rfl rfl ?_; clear S a; intro a S
  refine l_pure S (p_sadd rfl rfl (by have := px.dec_le (u := l.length) (by omega); have h1 : (⟨#[42]⟩ : ByteArray).size = 1 := rfl; have h3 : (⟨#[13, 10]⟩ : ByteArray).size = 2 := rfl; have h2 : (strOfNums (wq.dec l.length)).size = (wq.dec l.length).length := strOfNums_size _; simp only [ByteArray.size_append]; omega)) rfl rfl rfl ?_; clear S a; intro a S
  have eH : ((⟨#[42]⟩ : ByteArray) ++ strOfNums (wq.dec l.length)) ++ ⟨#[13, 10]⟩ = (strOfNums (px.hdr 42 l.length)) := by rw [show (⟨#[42]⟩ : ByteArray) = strOfNums [42] from rfl, show (⟨#[13, 10]⟩ : ByteArray) = strOfNums [13, 10] from rfl, ← px.sapp, ← px.sapp]; rfl
  rw [eH] at S
  refine l_pure S (p_assign rfl) rfl rfl rfl ?_; clear S a; intro a S
  refine l_nil ?_
  refine e_then ?_
  refine wp_seq ?_
  refine wp_seq ?_
  refine c_region ?_
  refine l_pure S (p_move rfl) rfl rfl rfl ?_; clear S a; intro a S
  refine l_pure S (p_len Tryz.underlying22 rfl) rfl rfl rfl ?_; clear S a; intro a S
  refine l_pure S (p_move rfl) rfl rfl rfl ?_; clear S a; intro a S
  refine l_nil ?_
  refine e_then ?_
  refine wp_block ?_
  have eH2 : (strOfNums (px.hdr 42 l.length)) = strOfNums (px.hdr 42 l.length ++ px.blobs (l.take 0)) := by rw [List.take_zero, show px.blobs [] = [] from rfl, List.append_nil]
  rw [eH2] at S
  refine c_loop (σ := Nat) (fun s_ a w => match s_ with | i => SL a 24 [] [(3, .string (strOfNums (px.hdr 42 l.length ++ px.blobs (l.take i)))), (12, .slice A l.length c), (13, .int .i64 (l.length : Int)), (14, .int .i64 (i : Int))] ∧ HH (B) wb w L0 ∧ (i ≤ l.length)) (fun s_ => match s_ with | i => l.length - i) 0 ⟨S.only ⟨rfl, rfl, rfl, rfl, trivial⟩, H, Nat.zero_le _⟩ ?_
  clear S a H; rintro i a w ⟨S, H, hinv⟩
  refine wp_seq ?_
  refine c_region ?_
  refine l_pure S (p_lss rfl rfl) rfl rfl rfl ?_; clear S a; intro a S
  refine l_nil ?_
  refine e_then ?_
  refine wp_seq ?_
  refine c_cond S rfl (fun bc2 => ?_) (fun bc2 => ?_)
  · skip
    have c2 := bc2
    have c2 := of_decide_eq_true c2
    refine wp_skip ?_
    refine e_then ?_
    refine wp_seq ?_
    refine wp_block ?_
    refine wp_seq ?_
    refine c_region ?_
    have hgs := get_some ByteArray.empty (show i < l.length by omega)
    obtain ⟨ad, hA⟩ := C_some (hC w H.below) (show i < l.length by omega)
    subst hA
    refine l_pure S (p_indexAddr rfl rfl (fun w => ia_any Tryz.underlying22 sz9 (by omega) (by omega))) rfl rfl rfl ?_; clear S a; intro a S
    refine l_read S H (r_rowB (i := i) (fun w hb => hC w hb) rfl (by omega) hgs ag9) rfl rfl rfl ?_; clear S a; intro a S
    refine l_pure S (p_assign rfl) rfl rfl rfl ?_; clear S a; intro a S
    refine l_nil ?_
    refine e_then ?_
    refine c_region ?_
    refine l_pure S (p_move rfl) rfl rfl rfl ?_; clear S a; intro a S
    refine l_pure S (p_move rfl) rfl rfl rfl ?_; clear S a; intro a S
    have hsz := hs _ (List.mem_of_getElem? (get_some ByteArray.empty (show i < l.length by omega)))
    have hcon := blob_ wb _ B _ 36 (l.getD i ByteArray.empty) (by omega) H
    refine l_call S rfl rfl Tryz.func21 rfl rfl (hcon) rfl rfl rfl ?_
    rintro e w ⟨rfl, hH⟩
    refine ⟨_, rfl, ?_⟩; clear S a; intro a S
    clear H hcon; have H := hH; clear hH
    refine l_pure S (p_sadd rfl rfl (by have h1 := px.blob_len 36 (l.getD i ByteArray.empty) (by omega); have h2 := blobs_takeN hl hs i; have h3 := px.hdr_len 42 l.length (by omega); rw [ByteArray.size_append, strOfNums_size, strOfNums_size, List.length_append]; omega)) rfl rfl rfl ?_; clear S a; intro a S
    rw [← px.sapp, List.append_assoc, ← px.blobs_succ (show i < l.length by omega)] at S
    refine l_pure S (p_assign rfl) rfl rfl rfl ?_; clear S a; intro a S
    refine l_nil ?_
    refine e_in 1 ?_
    refine e_then ?_
    refine c_region ?_
    refine l_pure S (p_add rfl rfl (nat_add (x := i) (y := 1) (by omega))) rfl rfl rfl ?_; clear S a; intro a S
    refine l_pure S (p_move rfl) rfl rfl rfl ?_; clear S a; intro a S
    refine l_nil ?_
    refine e_then ?_
    exact ⟨(i + 1), ⟨S.only ⟨rfl, rfl, rfl, rfl, trivial⟩, H, by omega⟩, by show l.length - (i + 1) < l.length - i; omega⟩
  · skip
    have c2 := bc2
    have c2 := of_decide_eq_false c2
    refine wp_exit ?_
    refine e_then_exit ?_
    refine e_then_exit ?_
    refine e_in_exit ?_
    refine e_then ?_
    refine wp_seq ?_
    refine c_region ?_
    refine l_pure S (p_move rfl) rfl rfl rfl ?_; clear S a; intro a S
    refine l_pure S (p_assign rfl) rfl rfl rfl ?_; clear S a; intro a S
    refine l_nil ?_
    refine e_then ?_
    refine wp_ret ?_
    obtain rfl : i = l.length := by omega
    rw [List.take_of_length_le (Nat.le_refl _)] at S
    exact r_ret1 S rfl rfl ⟨rfl, H⟩
theorem hxl_ (wb w0 : World) (B : Nat) (L0 : dc.Bk) (n : Nat) (hn : n ≤ 100000) (H : HH B wb w0 L0) : Calls Tryz.prog 66 #[.int .i64 (n : Int)] w0 fun e w' => e = .returned (.int .i64 ((n * 2 : Nat) : Int)) ∧ HH B wb w' L0 := by
  refine c_enter (args := [.int .i64 (n : Int)]) (k := 4) Tryz.func66 rfl rfl rfl (fun a S => ?_)
  refine wp_seq ?_
  refine c_region ?_
  refine l_pure S (p_assign rfl) rfl rfl rfl ?_; clear S a; intro a S
  refine l_nil ?_
  refine e_then ?_
  refine wp_seq ?_
  refine c_region ?_
  refine l_pure S (p_move rfl) rfl rfl rfl ?_; clear S a; intro a S
  refine l_pure S (p_mul rfl rfl (nat_mul (x := n) (y := 2) (by omega))) rfl rfl rfl ?_; clear S a; intro a S
  refine l_pure S (p_assign rfl) rfl rfl rfl ?_; clear S a; intro a S
  refine l_nil ?_
  refine e_then ?_
  refine wp_ret ?_
  exact r_ret1 S rfl rfl ⟨rfl, H⟩
theorem hxe_ (wb w0 : World) (B : Nat) (L0 : dc.Bk) (gd gs os cx : Nat) (z csx : Array Value) (ex : TypeId) (fx : Nat × Nat) (l : List Int) (hby : ∀ y ∈ l, 0 ≤ y ∧ y ≤ 255) (hz : z.size = l.length * 2) (hl : l.length ≤ 100000) (hm : (gs, Obj.cells csx ex fx) ∈ L0) (hrow : bf.Row csx os l) (H : HH B wb w0 ((gd, .cells z 5 (0, 0)) :: L0)) : Calls Tryz.prog 67 #[.slice (some ⟨gd, 0, none⟩) (l.length * 2) (l.length * 2), .slice (some ⟨gs, os, none⟩) l.length cx] w0 fun e w' => (∃ v, e = .returned v) ∧ HH B wb w' ((gd, .cells (spl z 0 ((px.hexB l).map (Value.int .u8))) 5 (0, 0)) :: L0) := by
  refine c_enter (args := [.slice (some ⟨gd, 0, none⟩) (l.length * 2) (l.length * 2), .slice (some ⟨gs, os, none⟩) l.length cx]) (k := 31) Tryz.func67 rfl rfl rfl (fun a S => ?_)
  refine wp_seq ?_
  refine c_region ?_
  refine l_pure S (p_assign rfl) rfl rfl rfl ?_; clear S a; intro a S
  refine l_nil ?_
  refine e_then ?_
  refine wp_seq ?_
  refine c_region ?_
  refine l_pure S (p_assign rfl) rfl rfl rfl ?_; clear S a; intro a S
  refine l_nil ?_
  refine e_then ?_
  refine wp_seq ?_
  refine wp_seq ?_
  refine c_region ?_
  refine l_pure S (p_move rfl) rfl rfl rfl ?_; clear S a; intro a S
  refine l_pure S (p_len Tryz.underlying39 rfl) rfl rfl rfl ?_; clear S a; intro a S
  refine l_pure S (p_move rfl) rfl rfl rfl ?_; clear S a; intro a S
  refine l_nil ?_
  refine e_then ?_
  refine wp_block ?_
  replace H : HH B wb _ ((gd, .cells (spl z 0 ((px.hexB (l.take 0)).map (Value.int .u8))) 5 (0, 0)) :: L0) := H
  refine c_loop (σ := Nat) (fun s_ a w => match s_ with | i => SL a 33 [] [(0, .slice (some ⟨gd, 0, none⟩) (l.length * 2) (l.length * 2)), (1, .slice (some ⟨gs, os, none⟩) l.length cx), (5, .int .i64 ((2 * i : Nat) : Int)), (8, .slice (some ⟨gs, os, none⟩) l.length cx), (9, .int .i64 (l.length : Int)), (10, .int .i64 (i : Int))] ∧ HH (B) wb w ((gd, .cells (spl z 0 ((px.hexB (l.take i)).map (Value.int .u8))) 5 (0, 0)) :: L0) ∧ (i ≤ l.length)) (fun s_ => match s_ with | i => l.length - i) 0 ⟨S.only ⟨rfl, rfl, rfl, rfl, rfl, rfl, trivial⟩, H, Nat.zero_le _⟩ ?_
  clear S a H; rintro i a w ⟨S, H, hinv⟩
  have hXl : (px.hexB (l.take i)).length = 2 * i := by rw [px.hexB_len, List.length_take]; omega
  refine wp_seq ?_
  refine c_region ?_
  refine l_pure S (p_lss rfl rfl) rfl rfl rfl ?_; clear S a; intro a S
  refine l_nil ?_
  refine e_then ?_
  refine wp_seq ?_
  refine c_cond S rfl (fun bc2 => ?_) (fun bc2 => ?_)
  · skip
    have c2 := bc2
    have c2 := of_decide_eq_true c2
    refine wp_skip ?_
    refine e_then ?_
    refine wp_seq ?_
    refine wp_block ?_
    refine wp_seq ?_
    refine c_region ?_
    have hbr := hby _ (List.mem_of_getElem? (get_some (0 : Int) (show i < l.length by omega)))
    refine l_pure (v := .pointer (some ⟨gs, os + i, none⟩)) S (p_indexAddr rfl rfl (fun w => ia_off Tryz.underlying39 sz5 (by omega))) rfl rfl rfl ?_; clear S a; intro a S
    refine l_read S H (r_load (v := .int .u8 (l.getD i 0)) rfl (List.mem_cons_of_mem _ hm) (hrow i _ (get_some 0 (by omega))) (fun w hc => ld1 ag5 hc)) rfl rfl rfl ?_; clear S a; intro a S
    refine l_pure S (p_assign rfl) rfl rfl rfl ?_; clear S a; intro a S
    refine l_nil ?_
    refine e_then ?_
    refine wp_seq ?_
    refine c_region ?_
    refine l_pure S (p_move rfl) rfl rfl rfl ?_; clear S a; intro a S
    refine l_pure S (p_move rfl) rfl rfl rfl ?_; clear S a; intro a S
    refine l_pure S (p_move rfl) rfl rfl rfl ?_; clear S a; intro a S
    refine l_pure S (p_shr (r := l.getD i 0 / 16) rfl rfl (by decide) (shr16 _)) rfl rfl rfl ?_; clear S a; intro a S
    refine l_pure S (p_index rfl rfl (fun w => ix_string Tryz.underlying9 (by omega) (show _ < ((16 : Nat) : Int) by omega))) rfl rfl rfl ?_; clear S a; intro a S
    refine l_pure (v := .pointer (some ⟨gd, 2 * i + 0, none⟩)) S (p_indexAddr rfl rfl (fun w => ia_own (i := 2 * i + 0) Tryz.underlying39 sz5 (by omega))) rfl rfl rfl ?_; clear S a; intro a S
    refine l_store S H rfl rfl rfl .here (by rw [spl_size]; omega) (fun w u hc hz => st1 sz5 rfl hc hz) rfl rfl ?_; clear S a H; intro w a H S
    rw [sha.spl_snoc (by rw [List.length_map, hXl, Nat.zero_add, Nat.add_zero])] at H
    refine l_nil ?_
    refine e_then ?_
    refine wp_seq ?_
    refine c_region ?_
    refine l_pure S (p_move rfl) rfl rfl rfl ?_; clear S a; intro a S
    refine l_pure S (p_move rfl) rfl rfl rfl ?_; clear S a; intro a S
    refine l_pure S (p_add rfl rfl (nat_add (x := 2 * i) (y := 1) (by omega))) rfl rfl rfl ?_; clear S a; intro a S
    refine l_pure S (p_move rfl) rfl rfl rfl ?_; clear S a; intro a S
    refine l_pure S (p_and (r := l.getD i 0 % 16) rfl rfl (px.and15 hbr)) rfl rfl rfl ?_; clear S a; intro a S
    refine l_pure S (p_index rfl rfl (fun w => ix_string Tryz.underlying9 (by omega) (show _ < ((16 : Nat) : Int) by omega))) rfl rfl rfl ?_; clear S a; intro a S
    refine l_pure (v := .pointer (some ⟨gd, 2 * i + 1, none⟩)) S (p_indexAddr rfl rfl (fun w => ia_own (i := 2 * i + 1) Tryz.underlying39 sz5 (by omega))) rfl rfl rfl ?_; clear S a; intro a S
    refine l_store S H rfl rfl rfl .here (by rw [spl_size]; omega) (fun w u hc hz => st1 sz5 rfl hc hz) rfl rfl ?_; clear S a H; intro w a H S
    rw [sha.spl_snoc (by rw [List.length_append, List.length_map, hXl, List.length_singleton, Nat.zero_add])] at H
    replace H : HH B wb w ((gd, .cells (spl z 0 ((px.hexB (l.take (i + 1))).map (Value.int .u8))) 5 (0, 0)) :: L0) := by have e := px.hexB_succ (x := l) (i := i) (by omega); rw [e, List.map_append]; rw [List.append_assoc] at H; exact H
    refine l_nil ?_
    refine e_then ?_
    refine c_region ?_
    refine l_pure S (p_move rfl) rfl rfl rfl ?_; clear S a; intro a S
    refine l_pure S (p_add (r := ((2 * (i + 1) : Nat) : Int)) rfl rfl (by rw [IntWalk.i64_in _ (by omega)]; omega)) rfl rfl rfl ?_; clear S a; intro a S
    refine l_pure S (p_assign rfl) rfl rfl rfl ?_; clear S a; intro a S
    refine l_nil ?_
    refine e_in 1 ?_
    refine e_then ?_
    refine c_region ?_
    refine l_pure S (p_add rfl rfl (nat_add (x := i) (y := 1) (by omega))) rfl rfl rfl ?_; clear S a; intro a S
    refine l_pure S (p_move rfl) rfl rfl rfl ?_; clear S a; intro a S
    refine l_nil ?_
    refine e_then ?_
    exact ⟨(i + 1), ⟨S.only ⟨rfl, rfl, rfl, rfl, rfl, rfl, trivial⟩, H, by omega⟩, by show l.length - (i + 1) < l.length - i; omega⟩
  · skip
    have c2 := bc2
    have c2 := of_decide_eq_false c2
    refine wp_exit ?_
    refine e_then_exit ?_
    refine e_then_exit ?_
    refine e_in_exit ?_
    refine e_then ?_
    refine wp_seq ?_
    refine c_region ?_
    refine l_pure S (p_move rfl) rfl rfl rfl ?_; clear S a; intro a S
    refine l_pure S (p_len Tryz.underlying39 rfl) rfl rfl rfl ?_; clear S a; intro a S
    refine l_pure S (p_mul rfl rfl (nat_mul (x := l.length) (y := 2) (by omega))) rfl rfl rfl ?_; clear S a; intro a S
    refine l_pure S (p_assign rfl) rfl rfl rfl ?_; clear S a; intro a S
    refine l_nil ?_
    refine e_then ?_
    refine wp_ret ?_
    obtain rfl : i = l.length := by omega
    rw [List.take_of_length_le (Nat.le_refl _)] at H
    exact r_ret1 S rfl rfl ⟨⟨_, rfl⟩, H⟩
theorem hxs_ (wb w0 : World) (B : Nat) (L0 : dc.Bk) (gs os cx : Nat) (csx : Array Value) (ex : TypeId) (fx : Nat × Nat) (l : List Int) (hby : ∀ y ∈ l, 0 ≤ y ∧ y ≤ 255) (hl : l.length ≤ 100000) (hm : (gs, Obj.cells csx ex fx) ∈ L0) (hrow : bf.Row csx os l) (H : HH B wb w0 L0) : Calls Tryz.prog 50 #[.slice (some ⟨gs, os, none⟩) l.length cx] w0 fun e w' => e = .returned (.string (strOfNums (px.hexB l))) ∧ HH B wb w' L0 := by
  refine c_enter (args := [.slice (some ⟨gs, os, none⟩) l.length cx]) (k := 12) Tryz.func50 rfl rfl rfl (fun a S => ?_)
  refine wp_seq ?_
  refine c_region ?_
  refine l_pure S (p_assign rfl) rfl rfl rfl ?_; clear S a; intro a S
  refine l_nil ?_
  refine e_then ?_
  refine wp_seq ?_
  refine c_region ?_
  refine l_pure S (p_move rfl) rfl rfl rfl ?_; clear S a; intro a S
  refine l_pure S (p_len Tryz.underlying39 rfl) rfl rfl rfl ?_; clear S a; intro a S
  have hcon := hxl_ wb _ B _ l.length hl H
  refine l_call S rfl rfl Tryz.func66 rfl rfl (hcon) rfl rfl rfl ?_
  rintro e w ⟨rfl, hH⟩
  refine ⟨_, rfl, ?_⟩; clear S a; intro a S
  clear H hcon; have H := hH; clear hH
  refine l_make (l := l.length * 2) (c := l.length * 2) S H rfl rfl rfl Tryz.underlying39 in5 (by omega) (by omega) (by omega) rfl rfl rfl ?_; clear S a H; intro gm cm w a hcm H S
  refine l_pure S (p_assign rfl) rfl rfl rfl ?_; clear S a; intro a S
  refine l_nil ?_
  refine e_then ?_
  refine wp_seq ?_
  refine c_region ?_
  refine l_pure S (p_move rfl) rfl rfl rfl ?_; clear S a; intro a S
  refine l_pure S (p_move rfl) rfl rfl rfl ?_; clear S a; intro a S
  have hcon := hxe_ wb _ B L0 gm gs os cx cm csx ex fx l hby hcm hl hm hrow H
  refine l_call S rfl rfl Tryz.func67 rfl rfl (hcon) rfl rfl rfl ?_
  rintro e w ⟨⟨v, rfl⟩, hH⟩
  refine ⟨_, rfl, ?_⟩; clear S a; intro a S
  clear H hcon; have H := hH; clear hH
  refine l_nil ?_
  refine e_then ?_
  refine wp_seq ?_
  refine c_region ?_
  refine l_pure S (p_move rfl) rfl rfl rfl ?_; clear S a; intro a S
  rw [show l.length * 2 = (px.hexB l).length by rw [px.hexB_len]; omega] at S
  refine l_read S H (r_str (l := px.hexB l) rfl Tryz.underlying39 Tryz.underlying5 Tryz.underlying9 (fun w H => RB.C (rp.row_rb H List.mem_cons_self (bf.row0_spl (by rw [px.hexB_len]; omega))) (by rw [px.hexB_len]; omega))) rfl rfl rfl ?_; clear S a; intro a S
  refine l_pure S (p_assign rfl) rfl rfl rfl ?_; clear S a; intro a S
  refine l_nil ?_
  refine e_then ?_
  refine wp_ret ?_
  exact r_ret1 S rfl rfl ⟨rfl, H.tail⟩
theorem fits_ (wb w0 : World) (B : Nat) (L0 : dc.Bk) (A : Option Addr) (c : Nat) (l : List ByteArray) (hC : ∀ w, Below B wb w → Kd.string.C w A l.length l) (hl : l.length ≤ 9223372036854775807) (H : HH B wb w0 L0) : Calls Tryz.prog 5 #[.slice A l.length c] w0 fun e w' => (∃ b, e = .returned (.bool b)) ∧ HH B wb w' L0 := by
  refine c_enter (args := [.slice A l.length c]) (k := 17) Tryz.func5 rfl rfl rfl (fun a S => ?_)
  refine wp_seq ?_
  refine c_region ?_
  refine l_pure S (p_assign rfl) rfl rfl rfl ?_; clear S a; intro a S
  refine l_nil ?_
  refine e_then ?_
  refine wp_seq ?_
  refine wp_seq ?_
  refine c_region ?_
  refine l_pure S (p_move rfl) rfl rfl rfl ?_; clear S a; intro a S
  refine l_pure S (p_len Tryz.underlying22 rfl) rfl rfl rfl ?_; clear S a; intro a S
  refine l_pure S (p_gtr rfl rfl) rfl rfl rfl ?_; clear S a; intro a S
  refine l_nil ?_
  refine e_then ?_
  refine c_cond S rfl (fun bc3 => ?_) (fun bc3 => ?_)
  · skip
    have c3 := bc3
    have c3 := of_decide_eq_true c3
    refine wp_seq ?_
    refine c_region ?_
    refine l_pure S (p_assign rfl) rfl rfl rfl ?_; clear S a; intro a S
    refine l_nil ?_
    refine e_then ?_
    refine wp_ret ?_
    refine e_then_ret ?_
    exact r_ret1 S rfl rfl ⟨⟨_, rfl⟩, H⟩
  · skip
    have c3 := bc3
    have c3 := of_decide_eq_false c3
    refine wp_skip ?_
    refine e_then ?_
    refine wp_seq ?_
    refine wp_seq ?_
    refine c_region ?_
    refine l_pure S (p_move rfl) rfl rfl rfl ?_; clear S a; intro a S
    refine l_pure S (p_len Tryz.underlying22 rfl) rfl rfl rfl ?_; clear S a; intro a S
    refine l_pure S (p_move rfl) rfl rfl rfl ?_; clear S a; intro a S
    refine l_nil ?_
    refine e_then ?_
    refine wp_block ?_
    refine c_loop (σ := Nat) (fun s_ a w => match s_ with | i => SL a 18 [] [(8, .slice A l.length c), (9, .int .i64 (l.length : Int)), (10, .int .i64 (i : Int))] ∧ HH (B) wb w L0 ∧ (i ≤ l.length)) (fun s_ => match s_ with | i => l.length - i) 0 ⟨S.only ⟨rfl, rfl, rfl, trivial⟩, H, Nat.zero_le _⟩ ?_
    clear S a H; rintro i a w ⟨S, H, hinv⟩
    refine wp_seq ?_
    refine c_region ?_
    refine l_pure S (p_lss rfl rfl) rfl rfl rfl ?_; clear S a; intro a S
    refine l_nil ?_
    refine e_then ?_
    refine wp_seq ?_
    refine c_cond S rfl (fun bc6 => ?_) (fun bc6 => ?_)
    · skip
      have c6 := bc6
      have c6 := of_decide_eq_true c6
      refine wp_skip ?_
      refine e_then ?_
      refine wp_seq ?_
      refine wp_block ?_
      refine wp_seq ?_
      refine c_region ?_
      have hgs := get_some ByteArray.empty (show i < l.length by omega)
      obtain ⟨ad, hA⟩ := C_some (hC w H.below) (show i < l.length by omega)
      subst hA
      refine l_pure S (p_indexAddr rfl rfl (fun w => ia_any Tryz.underlying22 sz9 (by omega) (by omega))) rfl rfl rfl ?_; clear S a; intro a S
      refine l_read S H (r_rowB (i := i) (fun w hb => hC w hb) rfl (by omega) hgs ag9) rfl rfl rfl ?_; clear S a; intro a S
      refine l_pure S (p_assign rfl) rfl rfl rfl ?_; clear S a; intro a S
      refine l_nil ?_
      refine e_then ?_
      refine wp_seq ?_
      refine c_region ?_
      refine l_pure S (p_move rfl) rfl rfl rfl ?_; clear S a; intro a S
      refine l_pure S (p_lens Tryz.underlying9 rfl) rfl rfl rfl ?_; clear S a; intro a S
      refine l_pure S (p_gtr rfl rfl) rfl rfl rfl ?_; clear S a; intro a S
      refine l_nil ?_
      refine e_then ?_
      refine c_cond S rfl (fun bc8 => ?_) (fun bc8 => ?_)
      · skip
        have c8 := bc8
        have c8 := of_decide_eq_true c8
        refine wp_seq ?_
        refine c_region ?_
        refine l_pure S (p_assign rfl) rfl rfl rfl ?_; clear S a; intro a S
        refine l_nil ?_
        refine e_then ?_
        refine wp_ret ?_
        refine e_in_ret ?_
        refine e_then_ret ?_
        refine e_then_ret ?_
        refine e_in_ret ?_
        refine e_then_ret ?_
        exact r_ret1 S rfl rfl ⟨⟨_, rfl⟩, H⟩
      · skip
        have c8 := bc8
        have c8 := of_decide_eq_false c8
        refine wp_skip ?_
        refine e_in 1 ?_
        refine e_then ?_
        refine c_region ?_
        refine l_pure S (p_add rfl rfl (nat_add (x := i) (y := 1) (by omega))) rfl rfl rfl ?_; clear S a; intro a S
        refine l_pure S (p_move rfl) rfl rfl rfl ?_; clear S a; intro a S
        refine l_nil ?_
        refine e_then ?_
        exact ⟨(i + 1), ⟨S.only ⟨rfl, rfl, rfl, trivial⟩, H, by omega⟩, by show l.length - (i + 1) < l.length - i; omega⟩
    · skip
      have c6 := bc6
      have c6 := of_decide_eq_false c6
      refine wp_exit ?_
      refine e_then_exit ?_
      refine e_then_exit ?_
      refine e_in_exit ?_
      refine e_then ?_
      refine wp_seq ?_
      refine c_region ?_
      refine l_pure S (p_assign rfl) rfl rfl rfl ?_; clear S a; intro a S
      refine l_nil ?_
      refine e_then ?_
      refine wp_ret ?_
      exact r_ret1 S rfl rfl ⟨⟨_, rfl⟩, H⟩
theorem asc_nil (wb w0 : World) (B : Nat) (L0 : dc.Bk) (H : HH B wb w0 L0) : Calls Tryz.prog 32 #[.string ⟨#[]⟩] w0 fun e w' => e = .returned (.bool true) ∧ HH B wb w' L0 := by
  have hz0 : (⟨#[]⟩ : ByteArray).size = 0 := rfl
  refine c_enter (args := [.string ⟨#[]⟩]) (k := 13) Tryz.func32 rfl rfl rfl (fun a S => ?_)
  refine wp_seq ?_
  refine c_region ?_
  refine l_pure S (p_assign rfl) rfl rfl rfl ?_; clear S a; intro a S
  refine l_nil ?_
  refine e_then ?_
  refine wp_seq ?_
  refine wp_seq ?_
  refine c_region ?_
  refine l_pure S (p_assign rfl) rfl rfl rfl ?_; clear S a; intro a S
  refine l_nil ?_
  refine e_then ?_
  refine wp_block ?_
  refine c_loop (σ := Unit) (fun s_ a w => match s_ with | _ => SL a 14 [] [(0, .string ⟨#[]⟩), (3, .int .i64 0)] ∧ HH (B) wb w L0 ∧ (True)) (fun s_ => match s_ with | _ => 0) () ⟨S.only ⟨rfl, rfl, trivial⟩, H, trivial⟩ ?_
  clear S a H; rintro _ a w ⟨S, H, hinv⟩
  refine wp_seq ?_
  refine wp_seq ?_
  refine c_region ?_
  refine l_pure S (p_move rfl) rfl rfl rfl ?_; clear S a; intro a S
  refine l_pure S (p_move rfl) rfl rfl rfl ?_; clear S a; intro a S
  refine l_pure S (p_lens Tryz.underlying9 rfl) rfl rfl rfl ?_; clear S a; intro a S
  refine l_pure S (p_lss rfl rfl) rfl rfl rfl ?_; clear S a; intro a S
  refine l_nil ?_
  refine e_then ?_
  refine c_cond S rfl (fun c3 => by have c3 := of_decide_eq_true c3; exfalso; omega) (fun c3 => ?_)
  have c3 := of_decide_eq_false c3
  refine wp_exit ?_
  refine e_then_exit ?_
  refine e_then_exit ?_
  refine e_in_exit ?_
  refine e_then ?_
  refine wp_seq ?_
  refine c_region ?_
  refine l_pure S (p_assign rfl) rfl rfl rfl ?_; clear S a; intro a S
  refine l_nil ?_
  refine e_then ?_
  refine wp_ret ?_
  exact r_ret1 S rfl rfl ⟨rfl, H⟩
theorem arg_ (wb w0 : World) (B : Nat) (L0 : dc.Bk) (A : Option Addr) (c : Nat) (l : List ByteArray) (hC : ∀ w, Below B wb w → Kd.string.C w A l.length l) (hl : l.length ≤ 9223372036854775807) (H : HH B wb w0 L0) : Calls Tryz.prog 14 #[.string ⟨#[]⟩, .slice A l.length c] w0 fun e w' => ∃ b, e = .returned (.bool b) ∧ (b = true → ∀ s ∈ l, s.size ≤ 200) ∧ HH B wb w' L0 := by
  refine c_enter (args := [.string ⟨#[]⟩, .slice A l.length c]) (k := 27) Tryz.func14 rfl rfl rfl (fun a S => ?_)
  refine wp_seq ?_
  refine c_region ?_
  refine l_pure S (p_assign rfl) rfl rfl rfl ?_; clear S a; intro a S
  refine l_nil ?_
  refine e_then ?_
  refine wp_seq ?_
  refine wp_seq ?_
  refine c_region ?_
  refine l_pure S (p_move rfl) rfl rfl rfl ?_; clear S a; intro a S
  refine l_pure S (p_len Tryz.underlying22 rfl) rfl rfl rfl ?_; clear S a; intro a S
  refine l_pure S (p_move rfl) rfl rfl rfl ?_; clear S a; intro a S
  refine l_nil ?_
  refine e_then ?_
  refine wp_block ?_
  refine c_loop (σ := Nat) (fun s_ a w => match s_ with | i => SL a 29 [] [(0, .string ⟨#[]⟩), (7, .slice A l.length c), (8, .int .i64 (l.length : Int)), (9, .int .i64 (i : Int))] ∧ HH (B) wb w L0 ∧ (i ≤ l.length ∧ ∀ j, j < i → (l.getD j ByteArray.empty).size ≤ 200)) (fun s_ => match s_ with | i => l.length - i) 0 ⟨S.only ⟨rfl, rfl, rfl, rfl, trivial⟩, H, ⟨Nat.zero_le _, fun j hj => by omega⟩⟩ ?_
  clear S a H; rintro i a w ⟨S, H, hinv⟩
  obtain ⟨hi, hok⟩ := hinv
  have hz0 : (⟨#[]⟩ : ByteArray).size = 0 := rfl
  refine wp_seq ?_
  refine c_region ?_
  refine l_pure S (p_lss rfl rfl) rfl rfl rfl ?_; clear S a; intro a S
  refine l_nil ?_
  refine e_then ?_
  refine wp_seq ?_
  refine c_cond S rfl (fun bc3 => ?_) (fun bc3 => ?_)
  · skip
    have c3 := bc3
    have c3 := of_decide_eq_true c3
    refine wp_skip ?_
    refine e_then ?_
    refine wp_seq ?_
    refine wp_block ?_
    refine wp_seq ?_
    refine c_region ?_
    refine l_pure S (p_move rfl) rfl rfl rfl ?_; clear S a; intro a S
    have hgs := get_some ByteArray.empty (show i < l.length by omega)
    obtain ⟨ad, hA⟩ := C_some (hC w H.below) (show i < l.length by omega)
    subst hA
    refine l_pure S (p_indexAddr rfl rfl (fun w => ia_any Tryz.underlying22 sz9 (by omega) (by omega))) rfl rfl rfl ?_; clear S a; intro a S
    refine l_read S H (r_rowB (i := i) (fun w hb => hC w hb) rfl (by omega) hgs ag9) rfl rfl rfl ?_; clear S a; intro a S
    refine l_pure S (p_assign rfl) rfl rfl rfl ?_; clear S a; intro a S
    refine l_pure S (p_assign rfl) rfl rfl rfl ?_; clear S a; intro a S
    refine l_nil ?_
    refine e_then ?_
    refine wp_seq ?_
    refine c_region ?_
    refine l_pure S (p_move rfl) rfl rfl rfl ?_; clear S a; intro a S
    refine l_pure S (p_geq rfl rfl) rfl rfl rfl ?_; clear S a; intro a S
    refine l_pure S (p_move rfl) rfl rfl rfl ?_; clear S a; intro a S
    refine l_split (S.of 16 rfl) (fun bc5 => ?_) (fun bc5 => ?_)
    · skip
      have c5 := bc5
      have c5 := of_decide_eq_true c5
      refine l_off S rfl rfl rfl rfl bc5 rfl rfl ?_; clear S a; intro a S
      refine l_off S rfl rfl rfl rfl bc5 rfl rfl ?_; clear S a; intro a S
      refine l_off S rfl rfl rfl rfl bc5 rfl rfl ?_; clear S a; intro a S
      refine l_pure S (p_pick_t rfl bc5 rfl) rfl rfl rfl ?_; clear S a; intro a S
      refine l_nil ?_
      refine e_then ?_
      refine c_cond (b := true) S rfl (fun _ => ?_) (fun h => by cases h)
      refine wp_seq ?_
      refine c_region ?_
      refine l_pure S (p_assign rfl) rfl rfl rfl ?_; clear S a; intro a S
      refine l_nil ?_
      refine e_then ?_
      refine wp_ret ?_
      refine e_in_ret ?_
      refine e_then_ret ?_
      refine e_then_ret ?_
      refine e_in_ret ?_
      refine e_then_ret ?_
      exact r_ret1 S rfl rfl ⟨_, rfl, fun h => (by cases h), H⟩
    · skip
      have c5 := bc5
      have c5 := of_decide_eq_false c5
      refine l_on S rfl rfl rfl rfl bc5 ?_
      refine l_pure S (p_move rfl) rfl rfl rfl ?_; clear S a; intro a S
      refine l_on S rfl rfl rfl rfl bc5 ?_
      refine l_pure S (p_lens Tryz.underlying9 rfl) rfl rfl rfl ?_; clear S a; intro a S
      refine l_on S rfl rfl rfl rfl bc5 ?_
      refine l_pure S (p_gtr rfl rfl) rfl rfl rfl ?_; clear S a; intro a S
      refine l_pure S (p_pick_f rfl bc5 rfl) rfl rfl rfl ?_; clear S a; intro a S
      refine l_nil ?_
      refine e_then ?_
      refine c_cond S rfl (fun bc10 => ?_) (fun bc10 => ?_)
      · skip
        have c10 := bc10
        have c10 := of_decide_eq_true c10
        refine wp_seq ?_
        refine c_region ?_
        refine l_pure S (p_assign rfl) rfl rfl rfl ?_; clear S a; intro a S
        refine l_nil ?_
        refine e_then ?_
        refine wp_ret ?_
        refine e_in_ret ?_
        refine e_then_ret ?_
        refine e_then_ret ?_
        refine e_in_ret ?_
        refine e_then_ret ?_
        exact r_ret1 S rfl rfl ⟨_, rfl, fun h => (by cases h), H⟩
      · skip
        have c10 := bc10
        have c10 := of_decide_eq_false c10
        refine wp_skip ?_
        refine e_in 1 ?_
        refine e_then ?_
        refine c_region ?_
        refine l_pure S (p_add rfl rfl (nat_add (x := i) (y := 1) (by omega))) rfl rfl rfl ?_; clear S a; intro a S
        refine l_pure S (p_move rfl) rfl rfl rfl ?_; clear S a; intro a S
        refine l_nil ?_
        refine e_then ?_
        exact ⟨(i + 1), ⟨S.only ⟨rfl, rfl, rfl, rfl, trivial⟩, H, ⟨by omega, fun j hj => by rcases Nat.lt_or_ge j i with h | h; exact hok j h; obtain rfl : j = i := (by omega); omega⟩⟩, by show l.length - (i + 1) < l.length - i; omega⟩
  · skip
    have c3 := bc3
    have c3 := of_decide_eq_false c3
    refine wp_exit ?_
    refine e_then_exit ?_
    refine e_then_exit ?_
    refine e_in_exit ?_
    refine e_then ?_
    refine wp_seq ?_
    refine c_region ?_
    refine l_pure S (p_move rfl) rfl rfl rfl ?_; clear S a; intro a S
    refine l_pure S (p_lens Tryz.underlying9 rfl) rfl rfl rfl ?_; clear S a; intro a S
    refine l_pure S (p_leq rfl rfl) rfl rfl rfl ?_; clear S a; intro a S
    refine l_pure S (p_move rfl) rfl rfl rfl ?_; clear S a; intro a S
    refine l_split (S.of 25 rfl) (fun bc13 => ?_) (fun bc13 => ?_)
    · skip
      have c13 := bc13
      have c13 := of_decide_eq_true c13
      refine l_on S rfl rfl rfl rfl bc13 ?_
      refine l_pure S (p_move rfl) rfl rfl rfl ?_; clear S a; intro a S
      refine l_on S rfl rfl rfl rfl bc13 ?_
      refine l_call S rfl rfl Tryz.func32 rfl rfl (asc_nil wb _ B _ H) rfl rfl rfl ?_
      rintro e w ⟨rfl, hH⟩
      refine ⟨_, rfl, ?_⟩; clear S a; intro a S
      clear H; have H := hH; clear hH
      refine l_pure S (p_pick_t rfl bc13 rfl) rfl rfl rfl ?_; clear S a; intro a S
      refine l_pure S (p_assign rfl) rfl rfl rfl ?_; clear S a; intro a S
      refine l_nil ?_
      refine e_then ?_
      refine wp_ret ?_
      exact r_ret1 S rfl rfl ⟨true, rfl, fun _ s hs => (by obtain ⟨j, hj⟩ := List.getElem?_of_mem hs; have hlt := (List.getElem?_eq_some_iff.1 hj).1; have := hok j (by omega); rw [List.getD_eq_getElem?_getD, hj] at this; exact this), H⟩
    · skip
      have c13 := bc13
      have c13 := of_decide_eq_false c13
      refine l_off S rfl rfl rfl rfl bc13 rfl rfl ?_; clear S a; intro a S
      refine l_off S rfl rfl rfl rfl bc13 rfl rfl ?_; clear S a; intro a S
      refine l_pure S (p_pick_f rfl bc13 rfl) rfl rfl rfl ?_; clear S a; intro a S
      refine l_pure S (p_assign rfl) rfl rfl rfl ?_; clear S a; intro a S
      refine l_nil ?_
      refine e_then ?_
      refine wp_ret ?_
      exact r_ret1 S rfl rfl ⟨_, rfl, fun h => (by cases h), H⟩
theorem srt_ (wb w0 : World) (B : Nat) (L0 : dc.Bk) (sc : ByteArray) (A : Option Addr) (c : Nat) (l : List ByteArray) (hC : ∀ w, Below B wb w → Kd.string.C w A l.length l) (hl : l.length ≤ 9223372036854775807) (A2 : Option Addr) (c2 : Nat) (l2 : List ByteArray) (hC2 : ∀ w, Below B wb w → Kd.string.C w A2 l2.length l2) (hl2 : l2.length ≤ 9223372036854775807) (H : HH B wb w0 L0) : Calls Tryz.prog 6 #[.string sc, .slice A l.length c, .slice A2 l2.length c2] w0 fun e w' => ∃ b, e = .returned (.bool b) ∧ (b = true → sc.size ≤ 2000 ∧ l.length ≤ 20 ∧ l2.length ≤ 20 ∧ (∀ s ∈ l, s.size ≤ 200) ∧ ∀ s ∈ l2, s.size ≤ 200) ∧ HH B wb w' L0 := by
  refine c_enter (args := [.string sc, .slice A l.length c, .slice A2 l2.length c2]) (k := 25) Tryz.func6 rfl rfl rfl (fun a S => ?_)
  refine wp_seq ?_
  refine c_region ?_
  refine l_pure S (p_assign rfl) rfl rfl rfl ?_; clear S a; intro a S
  refine l_nil ?_
  refine e_then ?_
  refine wp_seq ?_
  refine c_region ?_
  refine l_pure S (p_move rfl) rfl rfl rfl ?_; clear S a; intro a S
  refine l_pure S (p_lens Tryz.underlying9 rfl) rfl rfl rfl ?_; clear S a; intro a S
  refine l_pure S (p_leq rfl rfl) rfl rfl rfl ?_; clear S a; intro a S
  refine l_pure S (p_move rfl) rfl rfl rfl ?_; clear S a; intro a S
  refine l_split (S.of 10 rfl) (fun bc3 => ?_) (fun bc3 => ?_)
  · skip
    have c3 := bc3
    have c3 := of_decide_eq_true c3
    refine l_on S rfl rfl rfl rfl bc3 ?_
    refine l_pure S (p_move rfl) rfl rfl rfl ?_; clear S a; intro a S
    refine l_on S rfl rfl rfl rfl bc3 ?_
    refine l_pure S (p_len Tryz.underlying22 rfl) rfl rfl rfl ?_; clear S a; intro a S
    refine l_on S rfl rfl rfl rfl bc3 ?_
    refine l_pure S (p_leq rfl rfl) rfl rfl rfl ?_; clear S a; intro a S
    refine l_pure S (p_pick_t rfl bc3 rfl) rfl rfl rfl ?_; clear S a; intro a S
    refine l_pure S (p_move rfl) rfl rfl rfl ?_; clear S a; intro a S
    refine l_split (S.of 15 rfl) (fun bc5 => ?_) (fun bc5 => ?_)
    · skip
      have c5 := bc5
      have c5 := of_decide_eq_true c5
      refine l_on S rfl rfl rfl rfl bc5 ?_
      refine l_pure S (p_move rfl) rfl rfl rfl ?_; clear S a; intro a S
      refine l_on S rfl rfl rfl rfl bc5 ?_
      refine l_pure S (p_len Tryz.underlying22 rfl) rfl rfl rfl ?_; clear S a; intro a S
      refine l_on S rfl rfl rfl rfl bc5 ?_
      refine l_pure S (p_leq rfl rfl) rfl rfl rfl ?_; clear S a; intro a S
      refine l_pure S (p_pick_t rfl bc5 rfl) rfl rfl rfl ?_; clear S a; intro a S
      refine l_pure S (p_move rfl) rfl rfl rfl ?_; clear S a; intro a S
      refine l_split (S.of 20 rfl) (fun bc7 => ?_) (fun bc7 => ?_)
      · skip
        have c7 := bc7
        have c7 := of_decide_eq_true c7
        refine l_on S rfl rfl rfl rfl bc7 ?_
        refine l_pure S (p_move rfl) rfl rfl rfl ?_; clear S a; intro a S
        refine l_on S rfl rfl rfl rfl bc7 ?_
        refine l_call S rfl rfl Tryz.func14 rfl rfl (arg_ wb _ B _ A c l hC hl H) rfl rfl rfl ?_
        rintro e w ⟨r1, rfl, hr1, hH⟩
        refine ⟨_, rfl, ?_⟩; clear S a; intro a S
        clear H; have H := hH; clear hH
        refine l_pure S (p_pick_t rfl bc7 rfl) rfl rfl rfl ?_; clear S a; intro a S
        refine l_pure S (p_move rfl) rfl rfl rfl ?_; clear S a; intro a S
        refine l_split (S.of 24 rfl) (fun bc9 => ?_) (fun bc9 => ?_)
        · skip
          refine l_on S rfl rfl rfl rfl bc9 ?_
          refine l_pure S (p_move rfl) rfl rfl rfl ?_; clear S a; intro a S
          refine l_on S rfl rfl rfl rfl bc9 ?_
          refine l_call S rfl rfl Tryz.func14 rfl rfl (arg_ wb _ B _ A2 c2 l2 hC2 hl2 H) rfl rfl rfl ?_
          rintro e w ⟨r2, rfl, hr2, hH⟩
          refine ⟨_, rfl, ?_⟩; clear S a; intro a S
          clear H; have H := hH; clear hH
          refine l_pure S (p_pick_t rfl bc9 rfl) rfl rfl rfl ?_; clear S a; intro a S
          refine l_pure S (p_assign rfl) rfl rfl rfl ?_; clear S a; intro a S
          refine l_nil ?_
          refine e_then ?_
          refine wp_ret ?_
          exact r_ret1 S rfl rfl ⟨_, rfl, fun h => ⟨by omega, by omega, by omega, hr1 (by assumption), hr2 h⟩, H⟩
        · skip
          refine l_off S rfl rfl rfl rfl bc9 rfl rfl ?_; clear S a; intro a S
          refine l_off S rfl rfl rfl rfl bc9 rfl rfl ?_; clear S a; intro a S
          refine l_pure S (p_pick_f rfl bc9 rfl) rfl rfl rfl ?_; clear S a; intro a S
          refine l_pure S (p_assign rfl) rfl rfl rfl ?_; clear S a; intro a S
          refine l_nil ?_
          refine e_then ?_
          refine wp_ret ?_
          exact r_ret1 S rfl rfl ⟨_, rfl, fun h => (by cases h), H⟩
      · skip
        have c7 := bc7
        have c7 := of_decide_eq_false c7
        refine l_off S rfl rfl rfl rfl bc7 rfl rfl ?_; clear S a; intro a S
        refine l_off S rfl rfl rfl rfl bc7 rfl rfl ?_; clear S a; intro a S
        refine l_pure S (p_pick_f rfl bc7 rfl) rfl rfl rfl ?_; clear S a; intro a S
        refine l_pure S (p_move rfl) rfl rfl rfl ?_; clear S a; intro a S
        refine l_off S rfl rfl rfl rfl rfl rfl rfl ?_; clear S a; intro a S
        refine l_off S rfl rfl rfl rfl rfl rfl rfl ?_; clear S a; intro a S
        refine l_pure S (p_pick_f rfl rfl rfl) rfl rfl rfl ?_; clear S a; intro a S
        refine l_pure S (p_assign rfl) rfl rfl rfl ?_; clear S a; intro a S
        refine l_nil ?_
        refine e_then ?_
        refine wp_ret ?_
        exact r_ret1 S rfl rfl ⟨_, rfl, fun h => (by cases h), H⟩
    · skip
      have c5 := bc5
      have c5 := of_decide_eq_false c5
      refine l_off S rfl rfl rfl rfl bc5 rfl rfl ?_; clear S a; intro a S
      refine l_off S rfl rfl rfl rfl bc5 rfl rfl ?_; clear S a; intro a S
      refine l_off S rfl rfl rfl rfl bc5 rfl rfl ?_; clear S a; intro a S
      refine l_pure S (p_pick_f rfl bc5 rfl) rfl rfl rfl ?_; clear S a; intro a S
      refine l_pure S (p_move rfl) rfl rfl rfl ?_; clear S a; intro a S
      refine l_off S rfl rfl rfl rfl rfl rfl rfl ?_; clear S a; intro a S
      refine l_off S rfl rfl rfl rfl rfl rfl rfl ?_; clear S a; intro a S
      refine l_pure S (p_pick_f rfl rfl rfl) rfl rfl rfl ?_; clear S a; intro a S
      refine l_pure S (p_move rfl) rfl rfl rfl ?_; clear S a; intro a S
      refine l_off S rfl rfl rfl rfl rfl rfl rfl ?_; clear S a; intro a S
      refine l_off S rfl rfl rfl rfl rfl rfl rfl ?_; clear S a; intro a S
      refine l_pure S (p_pick_f rfl rfl rfl) rfl rfl rfl ?_; clear S a; intro a S
      refine l_pure S (p_assign rfl) rfl rfl rfl ?_; clear S a; intro a S
      refine l_nil ?_
      refine e_then ?_
      refine wp_ret ?_
      exact r_ret1 S rfl rfl ⟨_, rfl, fun h => (by cases h), H⟩
  · skip
    have c3 := bc3
    have c3 := of_decide_eq_false c3
    refine l_off S rfl rfl rfl rfl bc3 rfl rfl ?_; clear S a; intro a S
    refine l_off S rfl rfl rfl rfl bc3 rfl rfl ?_; clear S a; intro a S
    refine l_off S rfl rfl rfl rfl bc3 rfl rfl ?_; clear S a; intro a S
    refine l_pure S (p_pick_f rfl bc3 rfl) rfl rfl rfl ?_; clear S a; intro a S
    refine l_pure S (p_move rfl) rfl rfl rfl ?_; clear S a; intro a S
    refine l_off S rfl rfl rfl rfl rfl rfl rfl ?_; clear S a; intro a S
    refine l_off S rfl rfl rfl rfl rfl rfl rfl ?_; clear S a; intro a S
    refine l_off S rfl rfl rfl rfl rfl rfl rfl ?_; clear S a; intro a S
    refine l_pure S (p_pick_f rfl rfl rfl) rfl rfl rfl ?_; clear S a; intro a S
    refine l_pure S (p_move rfl) rfl rfl rfl ?_; clear S a; intro a S
    refine l_off S rfl rfl rfl rfl rfl rfl rfl ?_; clear S a; intro a S
    refine l_off S rfl rfl rfl rfl rfl rfl rfl ?_; clear S a; intro a S
    refine l_pure S (p_pick_f rfl rfl rfl) rfl rfl rfl ?_; clear S a; intro a S
    refine l_pure S (p_move rfl) rfl rfl rfl ?_; clear S a; intro a S
    refine l_off S rfl rfl rfl rfl rfl rfl rfl ?_; clear S a; intro a S
    refine l_off S rfl rfl rfl rfl rfl rfl rfl ?_; clear S a; intro a S
    refine l_pure S (p_pick_f rfl rfl rfl) rfl rfl rfl ?_; clear S a; intro a S
    refine l_pure S (p_assign rfl) rfl rfl rfl ?_; clear S a; intro a S
    refine l_nil ?_
    refine e_then ?_
    refine wp_ret ?_
    exact r_ret1 S rfl rfl ⟨_, rfl, fun h => (by cases h), H⟩
end rf
end Go.Proofs.YtnmelglnkefjfaaGreatDoor.wr
