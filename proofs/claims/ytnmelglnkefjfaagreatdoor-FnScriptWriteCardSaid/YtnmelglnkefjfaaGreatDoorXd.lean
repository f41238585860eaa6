/- FnScriptWrite: the law, walked. -/
import Derived.Test.YtnmelglnkefjfaaGreatDoorXc
import Derived.Test.YtnmelglnkefjfaaGreatDoorShaS
namespace Go.Proofs.YtnmelglnkefjfaaGreatDoor.wr
open Go.RowKit Go.Proofs.HHW Go.Proofs.YtnmelglnkefjfaaGreatDoorW.PrintWords
set_option linter.unusedVariables false
set_option linter.unusedSimpArgs false
namespace lw
theorem sz5 : szB Tryz.prog 5 = some 1 := by kernel_rfl
theorem sz9 : szB Tryz.prog 9 = some 1 := by kernel_rfl
theorem zv5 : zvB Tryz.prog 5 = some (.int .u8 0) := by kernel_rfl
theorem zv9 : zvB Tryz.prog 9 = some (.string ⟨#[]⟩) := by kernel_rfl
theorem in5 : (Tryz.prog.info? 5).map (fun i => (i.zero, i.size, i.bytes)) = some (some (.int .u8 0), 1, 1) := by kernel_rfl
theorem in9 : (Tryz.prog.info? 9).map (fun i => (i.zero, i.size, i.bytes)) = some (some (.string ⟨#[]⟩), 1, 16) := by kernel_rfl

open ev sw

theorem shr16 (x : Int) : x.fdiv (2 ^ (min (4 : Int).toNat IntKind.u8.bits)) = x / 16 := by
  rw [show (2 : Int) ^ (min (4 : Int).toNat IntKind.u8.bits) = 16 from rfl]
  exact Int.fdiv_eq_ediv_of_nonneg _ (by decide)
theorem own_lits (e : TypeId) (g : Nat) (vs : List Value) (n : Nat) (hn : vs.length = n) : Own e 1 (.slice (some ⟨g, 0, none⟩) n n) n vs [(g, .cells vs.toArray e (0, 0))] := ⟨by omega, .inr ⟨g, vs.toArray, n, (0, 0), rfl, Nat.le_refl _, by simp [hn], rfl, thaw0 _, fun j hj => by simp⟩⟩
theorem own_strC {e : TypeId} {A : Option Addr} {n c : Nat} {l : List ByteArray} {ow L : List (Nat × Obj)} {B : Nat} {w0 w : World} (h : Own e 1 (.slice A n c) n (l.map Value.string) ow) (H : HH B w0 w (ow ++ L)) (hl : l.length ≤ 9223372036854775807) : Kd.string.C w A l.length l := by
  have hn : l.length = n := by have := h.1; simpa using this
  rcases h.2 with ⟨hv, h0, _⟩ | ⟨g, cs, c', f, hv, _, _, rfl, _, hr⟩
  · injection hv with h1 h2 h3
    subst h1
    exact ⟨rfl, hl, fun hp => by omega⟩
  · injection hv with h1 h2 h3
    subst h1
    exact C_own (h1 := fun _ => rfl) H (List.mem_append_left _ List.mem_cons_self) hl (fun j x hx => by
      have hi' := (List.getElem?_eq_some_iff.1 hx).1
      rw [Nat.zero_add, hr j (by simpa using hi'), List.getElem?_map, hx]
      rfl)
theorem ints_str {l : List Int} (h : ∀ y ∈ l, 0 ≤ y ∧ y ≤ 255) : ints (strOfNums l) = l := by
  unfold ints
  rw [strOfNums_data, List.map_map]
  conv => rhs; rw [← List.map_id l]
  apply List.map_congr_left
  intro y hy
  have := h y hy
  simp
  omega
theorem TL_size {wh : Bool} {sc : ByteArray} {ks az : List ByteArray} (hsc : sc.size ≤ 2000) (hks : ks.length ≤ 20) (has : az.length ≤ 20) (hk : ∀ s ∈ ks, s.size ≤ 200) (ha : ∀ s ∈ az, s.size ≤ 200) : (TL wh sc ks az).length ≤ 1000 ∧ ∀ s ∈ TL wh sc ks az, s.size ≤ 10000 := by
  have h1 : EVT.size ≤ 10000 := by decide
  have h2 : EVSHA.size ≤ 10000 := by decide
  have h3 : (strOfNums (px.hexB (sha.sum (ints sc)))).size ≤ 10000 := by rw [sum_size]; decide
  have h4 := NK_size (show ks.length < 100 by omega)
  constructor
  · unfold TL
    cases wh <;> simp <;> omega
  · intro s hs
    unfold TL at hs
    have h5 : s = EVT ∨ s = sc ∨ s = EVSHA ∨ s = strOfNums (px.hexB (sha.sum (ints sc))) ∨ s = NK ks.length ∨ s ∈ ks ∨ s ∈ az := by
      cases wh <;> simp at hs <;> rcases hs with h | h | h | h | h <;> simp [h]
    rcases h5 with rfl | rfl | rfl | rfl | rfl | h | h
    · exact h1
    · omega
    · exact h2
    · exact h3
    · omega
    · have := hk _ h; omega
    · have := ha _ h; omega
theorem hex_ (wb w0 : World) (B : Nat) (L0 : dc.Bk) (s : ByteArray) (hs : s.size ≤ 100000) (H : HH B wb w0 L0) : Calls Tryz.prog 22 #[.string s] w0 fun e w' => e = .returned (.string (strOfNums (px.hexB (ints s)))) ∧ HH B wb w' L0 := by
  refine c_enter (args := [.string s]) (k := 29) Tryz.func22 rfl rfl rfl (fun a S => ?_)
  refine wp_seq ?_
  refine c_region ?_
  refine l_pure S (p_assign rfl) rfl rfl rfl ?_; clear S a; intro a S
  refine l_nil ?_
  refine e_then ?_
  refine wp_seq ?_
  refine c_region ?_
  refine l_pure S (p_move rfl) rfl rfl rfl ?_; clear S a; intro a S
  refine l_pure S (p_lens Tryz.underlying9 rfl) rfl rfl rfl ?_; clear S a; intro a S
  refine l_pure S (p_mul rfl rfl (nat_mul (x := 2) (y := s.size) (by omega))) rfl rfl rfl ?_; clear S a; intro a S
  refine l_make (l := 0) (c := 2 * s.size) S H rfl rfl rfl Tryz.underlying39 in5 (by omega) (by omega) (by omega) rfl rfl rfl ?_; clear S a H; intro gm cm w a hcm H S
  refine l_pure S (p_assign rfl) rfl rfl rfl ?_; clear S a; intro a S
  refine l_nil ?_
  refine e_then ?_
  refine wp_seq ?_
  refine wp_seq ?_
  refine c_region ?_
  refine l_pure S (p_assign rfl) rfl rfl rfl ?_; clear S a; intro a S
  refine l_nil ?_
  refine e_then ?_
  refine wp_block ?_
  refine c_loop (σ := Nat × Option Addr × Nat × dc.Bk) (fun s_ a w => match s_ with | ⟨i, A, c, ow⟩ => SL a 30 [] [(0, .string s), (3, .slice A (px.hexB ((ints s).take i)).length c), (4, .int .i64 (i : Int))] ∧ HH (B) wb w (ow ++ L0) ∧ (i ≤ s.size ∧ OwnB 5 (.slice A (px.hexB ((ints s).take i)).length c) (px.hexB ((ints s).take i)) ow)) (fun s_ => match s_ with | ⟨i, A, c, ow⟩ => s.size - i) ⟨0, some ⟨gm, 0, none⟩, 2 * s.size, [(gm, .cells cm 5 (0, 0))]⟩ ⟨S.only ⟨rfl, rfl, rfl, trivial⟩, H, ⟨Nat.zero_le _, dc.own_new hcm⟩⟩ ?_
  clear S a H; rintro ⟨i, A, c, ow⟩ a w ⟨S, H, hinv⟩
  obtain ⟨hi, hown⟩ := hinv
  have hXl : (px.hexB ((ints s).take i)).length = 2 * i := by rw [px.hexB_len, List.length_take, ints_len]; omega
  refine wp_seq ?_
  refine wp_seq ?_
  refine c_region ?_
  refine l_pure S (p_move rfl) rfl rfl rfl ?_; clear S a; intro a S
  refine l_pure S (p_move rfl) rfl rfl rfl ?_; clear S a; intro a S
  refine l_pure S (p_lens Tryz.underlying9 rfl) rfl rfl rfl ?_; clear S a; intro a S
  refine l_pure S (p_lss rfl rfl) rfl rfl rfl ?_; clear S a; intro a S
  refine l_nil ?_
  refine e_then ?_
  refine c_cond S rfl (fun bc2 => ?_) (fun bc2 => ?_)
  · skip
    have c2 := bc2
    have c2 := of_decide_eq_true c2
    refine wp_skip ?_
    refine e_then ?_
    refine wp_seq ?_
    refine wp_block ?_
    refine d_start (id := 5) [12] 14 #[false, false, false, false, false, false, false, false, false, false, false, false, false, false] H rfl rfl rfl (fun w H => ?_)
    refine d_pure (i := 0) #[true, false, false, false, false, false, false, false, false, false, false, false, false, false] S rfl (p_move rfl) (wanted_none rfl) rfl rfl (by kernel_rfl) (fun _ _ _ h => h) ?_; clear S a; intro a S
    refine d_pure (i := 1) #[true, true, false, false, false, false, false, false, false, false, false, false, false, false] S rfl (p_move rfl) (wanted_none rfl) rfl rfl (by kernel_rfl) (fun _ _ _ h => h) ?_; clear S a; intro a S
    refine d_pure (i := 2) #[true, true, true, false, false, false, false, false, false, false, false, false, false, false] S rfl (p_move rfl) (wanted_none rfl) rfl rfl (by kernel_rfl) (fun _ _ _ h => h) ?_; clear S a; intro a S
    refine d_pure (i := 3) #[true, true, true, true, false, false, false, false, false, false, false, false, false, false] S rfl (p_index rfl rfl (fun w => ix_string Tryz.underlying9 (by omega) (by omega))) (wanted_none rfl) rfl rfl (by kernel_rfl) (fun _ _ _ h => h) ?_; clear S a; intro a S
    refine d_pure (i := 4) #[true, true, true, true, true, false, false, false, false, false, false, false, false, false] S rfl (p_shr (r := (Go.Proofs.HHW.bt s (i : Int)) / 16) rfl rfl (by decide) (shr16 _)) (wanted_none rfl) rfl rfl (by kernel_rfl) (fun _ _ _ h => h) ?_; clear S a; intro a S
    refine d_pure (i := 5) #[true, true, true, true, true, true, false, false, false, false, false, false, false, false] S rfl (p_index rfl rfl (fun w => ix_string Tryz.underlying9 (by have := Go.Proofs.HHW.bt_range s (i : Int); omega) (show _ < ((16 : Nat) : Int) by have := Go.Proofs.HHW.bt_range s (i : Int); omega))) (wanted_none rfl) rfl rfl (by kernel_rfl) (fun _ _ _ h => h) ?_; clear S a; intro a S
    refine d_pure (i := 6) #[true, true, true, true, true, true, true, false, false, false, false, false, false, false] S rfl (p_move rfl) (wanted_none rfl) rfl rfl (by kernel_rfl) (fun _ _ _ h => h) ?_; clear S a; intro a S
    refine d_pure (i := 7) #[true, true, true, true, true, true, true, true, false, false, false, false, false, false] S rfl (p_move rfl) (wanted_none rfl) rfl rfl (by kernel_rfl) (fun _ _ _ h => h) ?_; clear S a; intro a S
    refine d_pure (i := 8) #[true, true, true, true, true, true, true, true, true, false, false, false, false, false] S rfl (p_index rfl rfl (fun w => ix_string Tryz.underlying9 (by omega) (by omega))) (wanted_none rfl) rfl rfl (by kernel_rfl) (fun _ _ _ h => h) ?_; clear S a; intro a S
    refine d_pure (i := 9) #[true, true, true, true, true, true, true, true, true, true, false, false, false, false] S rfl (p_and (r := (Go.Proofs.HHW.bt s (i : Int)) % 16) rfl rfl (px.and15 (Go.Proofs.HHW.bt_range s _))) (wanted_none rfl) rfl rfl (by kernel_rfl) (fun _ _ _ h => h) ?_; clear S a; intro a S
    refine d_pure (i := 10) #[true, true, true, true, true, true, true, true, true, true, true, false, false, false] S rfl (p_index rfl rfl (fun w => ix_string Tryz.underlying9 (by have := Go.Proofs.HHW.bt_range s (i : Int); omega) (show _ < ((16 : Nat) : Int) by have := Go.Proofs.HHW.bt_range s (i : Int); omega))) (wanted_none rfl) rfl rfl (by kernel_rfl) (fun _ _ _ h => h) ?_; clear S a; intro a S
    refine d_lit (i := 11) [(.tmp 20), (.tmp 25)] #[true, true, true, true, true, true, true, true, true, true, true, true, false, false] S (.refl _) H rfl rfl rfl Tryz.underlying39 sz5 zv5 rfl rfl (by simp [Value.cells]) (wanted_none rfl) rfl rfl (by kernel_rfl) rfl ?_; clear S a H; intro g3 w a H S
    refine d_ownB (i := 12) [_] (xs := (px.hexB ((ints s).take i))) (r := [px.hexd ((Go.Proofs.HHW.bt s (i : Int)) / 16), px.hexd ((Go.Proofs.HHW.bt s (i : Int)) % 16)]) #[true, true, true, true, true, true, true, true, true, true, true, true, true, false] S H rfl rfl rfl rfl hown (src_lit (vs := ([px.hexd ((Go.Proofs.HHW.bt s (i : Int)) / 16), px.hexd ((Go.Proofs.HHW.bt s (i : Int)) % 16)]).map (Value.int .u8)) H List.mem_cons_self Tryz.underlying39 (by simp [Value.oneCell'])) Tryz.underlying39 in5 rfl (by show (_ + 2) * 1 ≤ _; omega) (by decide) (wanted_none rfl) rfl rfl (by kernel_rfl) rfl ?_; clear S a H; intro A' c' ow' w a hown' H S
    replace H := H.tail
    rw [rp.bti s i, ← px.hexB_succ (show i < (ints s).length by rw [ints_len]; omega)] at S hown'
    refine d_pure (i := 13) #[true, true, true, true, true, true, true, true, true, true, true, true, true, true] S rfl (p_assign rfl) (wanted_none rfl) rfl rfl (by kernel_rfl) (fun _ _ _ h => h) ?_; clear S a; intro a S
    refine d_done (by kernel_rfl) ?_
    refine e_in 1 ?_
    refine e_then ?_
    refine c_region ?_
    refine l_pure S (p_move rfl) rfl rfl rfl ?_; clear S a; intro a S
    refine l_pure S (p_add rfl rfl (nat_add (x := i) (y := 1) (by omega))) rfl rfl rfl ?_; clear S a; intro a S
    refine l_pure S (p_assign rfl) rfl rfl rfl ?_; clear S a; intro a S
    refine l_nil ?_
    refine e_then ?_
    exact ⟨⟨i + 1, A', c', ow'⟩, ⟨S.only ⟨rfl, rfl, rfl, trivial⟩, H, ⟨by omega, hown'⟩⟩, by show s.size - (i + 1) < s.size - i; omega⟩
  · skip
    have c2 := bc2
    have c2 := of_decide_eq_false c2
    refine wp_exit ?_
    refine e_then_exit ?_
    refine e_then_exit ?_
    refine e_in_exit ?_
    refine e_then ?_
    refine wp_seq ?_
    refine c_region ?_
    refine l_pure S (p_move rfl) rfl rfl rfl ?_; clear S a; intro a S
    obtain rfl : i = s.size := by omega
    rw [← ints_len s, List.take_of_length_le (Nat.le_refl _)] at hown S hXl
    refine l_read S H (r_str (l := px.hexB (ints s)) rfl Tryz.underlying39 Tryz.underlying5 Tryz.underlying9 (fun w H => Own.bytes hown H (by rw [hXl, ints_len]; omega))) rfl rfl rfl ?_; clear S a; intro a S
    refine l_pure S (p_assign rfl) rfl rfl rfl ?_; clear S a; intro a S
    refine l_nil ?_
    refine e_then ?_
    refine wp_ret ?_
    exact r_ret1 S rfl rfl ⟨rfl, H.bring⟩
theorem sT_t (wb w0 : World) (B : Nat) (L0 : dc.Bk) (sc : ByteArray) (Ak Aa : Option Addr) (ck ca : Nat) (ks az : List ByteArray) (hk0 : ∀ w, Below B wb w → Kd.string.C w Ak ks.length ks) (ha0 : ∀ w, Below B wb w → Kd.string.C w Aa az.length az) (hsc : sc.size ≤ 2000) (hks : ks.length ≤ 20) (has : az.length ≤ 20) (H : HH B wb w0 L0) : Calls Tryz.prog 9 #[.string sc, .slice Ak ks.length ck, .slice Aa az.length ca, .bool true] w0 fun e w' => ∃ A c ow, e = .returned (.slice A (TL true sc ks az).length c) ∧ Own 9 1 (.slice A (TL true sc ks az).length c) (TL true sc ks az).length ((TL true sc ks az).map Value.string) ow ∧ HH B wb w' (ow ++ L0) := by
  refine c_enter (args := [.string sc, .slice Ak ks.length ck, .slice Aa az.length ca, .bool true]) (k := 25) Tryz.func9 rfl rfl rfl (fun a S => ?_)
  refine wp_seq ?_
  refine c_region ?_
  refine l_pure S (p_assign rfl) rfl rfl rfl ?_; clear S a; intro a S
  refine l_nil ?_
  refine e_then ?_
  refine wp_seq ?_
  refine c_region ?_
  refine l_pure S (p_move rfl) rfl rfl rfl ?_; clear S a; intro a S
  refine l_call S rfl rfl Tryz.func23 rfl rfl (sha.spec_sha sc _ (by omega)) rfl rfl rfl ?_
  rintro e w ⟨rfl, hb⟩
  refine ⟨_, rfl, ?_⟩; clear S a; intro a S
  replace H := H.later hb; clear hb
  have hcon := hex_ wb _ B L0 (strOfNums (sha.sum (ints sc))) (by rw [strOfNums_size]; exact (by decide : 20 ≤ 100000)) H
  rw [ints_str (sm.sum_range _)] at hcon
  refine l_call S rfl rfl Tryz.func22 rfl rfl (hcon) rfl rfl rfl ?_
  rintro e w ⟨rfl, hH⟩
  refine ⟨_, rfl, ?_⟩; clear S a; intro a S
  clear H hcon; have H := hH; clear hH
  refine l_lit [(.const (.string ⟨#[69, 86, 65, 76, 83, 72, 65]⟩)), (.tmp 12)] (vs := [.string ⟨#[69, 86, 65, 76, 83, 72, 65]⟩, .string (strOfNums (px.hexB (sha.sum (ints sc))))]) S H rfl rfl Tryz.underlying22 sz9 zv9 rfl rfl (by simp [Value.cells]) rfl rfl rfl ?_; clear S a H; intro gl1 w a H S
  refine l_pure S (p_assign rfl) rfl rfl rfl ?_; clear S a; intro a S
  refine l_nil ?_
  refine e_then ?_
  refine wp_seq ?_
  refine wp_seq ?_
  refine c_region ?_
  refine l_pure S (p_move rfl) rfl rfl rfl ?_; clear S a; intro a S
  refine l_nil ?_
  refine e_then ?_
  refine c_cond (b := true) S rfl (fun _ => ?_) (fun h => by cases h)
  refine c_region ?_
  refine l_pure S (p_move rfl) rfl rfl rfl ?_; clear S a; intro a S
  refine l_lit [(.const (.string ⟨#[69, 86, 65, 76]⟩)), (.tmp 15)] (vs := [.string ⟨#[69, 86, 65, 76]⟩, .string sc]) S H rfl rfl Tryz.underlying22 sz9 zv9 rfl rfl (by simp [Value.cells]) rfl rfl rfl ?_; clear S a H; intro gl4 w a H S
  refine l_pure S (p_assign rfl) rfl rfl rfl ?_; clear S a; intro a S
  refine l_nil ?_
  refine e_then ?_
  refine wp_seq ?_
  refine c_region ?_
  refine l_pure S (p_move rfl) rfl rfl rfl ?_; clear S a; intro a S
  refine l_pure S (p_move rfl) rfl rfl rfl ?_; clear S a; intro a S
  refine l_pure S (p_len Tryz.underlying22 rfl) rfl rfl rfl ?_; clear S a; intro a S
  refine l_pure S (p_conv rfl (fun w => cv_int (Tryz.underlying3) (Tryz.underlying53) (nat_toU (x := ks.length) (by omega)))) rfl rfl rfl ?_; clear S a; intro a S
  have hcon := rf.dig_ wb _ B _ ks.length (by omega) H
  rw [NK_str] at hcon
  refine l_call S rfl rfl Tryz.func20 rfl rfl (hcon) rfl rfl rfl ?_
  rintro e w ⟨rfl, hH⟩
  refine ⟨_, rfl, ?_⟩; clear S a; intro a S
  clear H hcon; have H := hH; clear hH
  refine l_lit [(.tmp 21)] (vs := [.string (NK ks.length)]) S H rfl rfl Tryz.underlying22 sz9 zv9 rfl rfl (by simp [Value.cells]) rfl rfl rfl ?_; clear S a H; intro gl5 w a H S
  refine l_own (n := 2) (m := 1) [_] (xs := [.string ⟨#[69, 86, 65, 76]⟩, .string sc]) (ow := [(gl4, .cells #[.string ⟨#[69, 86, 65, 76]⟩, .string sc] 9 (0, 0))]) (L := ((gl1, .cells #[.string ⟨#[69, 86, 65, 76, 83, 72, 65]⟩, .string (strOfNums (px.hexB (sha.sum (ints sc))))] 9 (0, 0)) :: L0)) S H rfl rfl rfl (own_lits 9 gl4 [.string ⟨#[69, 86, 65, 76]⟩, .string sc] 2 rfl) (src_lit (c := 1) (vs := [.string (NK ks.length)]) H List.mem_cons_self Tryz.underlying22 (by simp [Value.oneCell'])) Tryz.underlying22 in9 rfl (by omega) (by decide) rfl rfl rfl ?_; clear S a H; intro vn6 own6 w a hwn6 H S
  obtain ⟨An6, cn6, rfl, _⟩ := hwn6.slice
  replace H : HH B wb _ ((gl5, .cells #[.string (NK ks.length)] 9 (0, 0)) :: (own6 ++ ((gl1, .cells #[.string ⟨#[69, 86, 65, 76, 83, 72, 65]⟩, .string (strOfNums (px.hexB (sha.sum (ints sc))))] 9 (0, 0)) :: L0))) := H
  refine l_pure S (p_assign rfl) rfl rfl rfl ?_; clear S a; intro a S
  refine l_nil ?_
  refine e_then ?_
  refine wp_seq ?_
  refine c_region ?_
  refine l_pure S (p_move rfl) rfl rfl rfl ?_; clear S a; intro a S
  refine l_pure S (p_move rfl) rfl rfl rfl ?_; clear S a; intro a S
  refine l_own (n := (2 + 1)) (m := ks.length) [_] (xs := ([.string ⟨#[69, 86, 65, 76]⟩, .string sc] ++ [.string (NK ks.length)])) (ow := own6) (L := ((gl1, .cells #[.string ⟨#[69, 86, 65, 76, 83, 72, 65]⟩, .string (strOfNums (px.hexB (sha.sum (ints sc))))] 9 (0, 0)) :: L0)) S H rfl rfl rfl hwn6 (src_C (h1 := fun _ => rfl) Tryz.underlying22 (hk0 _ H.below)) Tryz.underlying22 in9 rfl (by omega) (by decide) rfl rfl rfl ?_; clear S a H; intro vn7 own7 w a hwn7 H S
  obtain ⟨An7, cn7, rfl, _⟩ := hwn7.slice
  replace H : HH B wb _ ((gl5, .cells #[.string (NK ks.length)] 9 (0, 0)) :: (own7 ++ ((gl1, .cells #[.string ⟨#[69, 86, 65, 76, 83, 72, 65]⟩, .string (strOfNums (px.hexB (sha.sum (ints sc))))] 9 (0, 0)) :: L0))) := H
  refine l_pure S (p_move rfl) rfl rfl rfl ?_; clear S a; intro a S
  refine l_own (n := ((2 + 1) + ks.length)) (m := az.length) [_] (xs := (([.string ⟨#[69, 86, 65, 76]⟩, .string sc] ++ [.string (NK ks.length)]) ++ (ks.map Value.string))) (ow := own7) (L := ((gl1, .cells #[.string ⟨#[69, 86, 65, 76, 83, 72, 65]⟩, .string (strOfNums (px.hexB (sha.sum (ints sc))))] 9 (0, 0)) :: L0)) S H rfl rfl rfl hwn7 (src_C (h1 := fun _ => rfl) Tryz.underlying22 (ha0 _ H.below)) Tryz.underlying22 in9 rfl (by omega) (by decide) rfl rfl rfl ?_; clear S a H; intro vn8 own8 w a hwn8 H S
  obtain ⟨An8, cn8, rfl, _⟩ := hwn8.slice
  replace H : HH B wb _ ((gl5, .cells #[.string (NK ks.length)] 9 (0, 0)) :: (own8 ++ ((gl1, .cells #[.string ⟨#[69, 86, 65, 76, 83, 72, 65]⟩, .string (strOfNums (px.hexB (sha.sum (ints sc))))] 9 (0, 0)) :: L0))) := H
  refine l_pure S (p_assign rfl) rfl rfl rfl ?_; clear S a; intro a S
  refine l_nil ?_
  refine e_then ?_
  refine wp_ret ?_
  replace H : HH B wb _ (own8 ++ L0) := H.sub (.cons _ (List.Sublist.append (.refl _) (.cons _ (.refl _))))
  have eL : (((2 + 1) + ks.length) + az.length) = (TL true sc ks az).length := by unfold TL; simp; omega
  rw [eL] at S hwn8
  refine r_ret1 S rfl rfl ⟨An8, cn8, own8, rfl, ?_, H⟩
  have e2 : (TL true sc ks az).map Value.string = ((([.string ⟨#[69, 86, 65, 76]⟩, .string sc] ++ [.string (NK ks.length)]) ++ (ks.map Value.string)) ++ (az.map Value.string)) := by unfold TL; simp [EVT]
  rw [e2]; exact hwn8
theorem sT_f (wb w0 : World) (B : Nat) (L0 : dc.Bk) (sc : ByteArray) (Ak Aa : Option Addr) (ck ca : Nat) (ks az : List ByteArray) (hk0 : ∀ w, Below B wb w → Kd.string.C w Ak ks.length ks) (ha0 : ∀ w, Below B wb w → Kd.string.C w Aa az.length az) (hsc : sc.size ≤ 2000) (hks : ks.length ≤ 20) (has : az.length ≤ 20) (H : HH B wb w0 L0) : Calls Tryz.prog 9 #[.string sc, .slice Ak ks.length ck, .slice Aa az.length ca, .bool false] w0 fun e w' => ∃ A c ow, e = .returned (.slice A (TL false sc ks az).length c) ∧ Own 9 1 (.slice A (TL false sc ks az).length c) (TL false sc ks az).length ((TL false sc ks az).map Value.string) ow ∧ HH B wb w' (ow ++ L0) := by
  refine c_enter (args := [.string sc, .slice Ak ks.length ck, .slice Aa az.length ca, .bool false]) (k := 25) Tryz.func9 rfl rfl rfl (fun a S => ?_)
  refine wp_seq ?_
  refine c_region ?_
  refine l_pure S (p_assign rfl) rfl rfl rfl ?_; clear S a; intro a S
  refine l_nil ?_
  refine e_then ?_
  refine wp_seq ?_
  refine c_region ?_
  refine l_pure S (p_move rfl) rfl rfl rfl ?_; clear S a; intro a S
  refine l_call S rfl rfl Tryz.func23 rfl rfl (sha.spec_sha sc _ (by omega)) rfl rfl rfl ?_
  rintro e w ⟨rfl, hb⟩
  refine ⟨_, rfl, ?_⟩; clear S a; intro a S
  replace H := H.later hb; clear hb
  have hcon := hex_ wb _ B L0 (strOfNums (sha.sum (ints sc))) (by rw [strOfNums_size]; exact (by decide : 20 ≤ 100000)) H
  rw [ints_str (sm.sum_range _)] at hcon
  refine l_call S rfl rfl Tryz.func22 rfl rfl (hcon) rfl rfl rfl ?_
  rintro e w ⟨rfl, hH⟩
  refine ⟨_, rfl, ?_⟩; clear S a; intro a S
  clear H hcon; have H := hH; clear hH
  refine l_lit [(.const (.string ⟨#[69, 86, 65, 76, 83, 72, 65]⟩)), (.tmp 12)] (vs := [.string ⟨#[69, 86, 65, 76, 83, 72, 65]⟩, .string (strOfNums (px.hexB (sha.sum (ints sc))))]) S H rfl rfl Tryz.underlying22 sz9 zv9 rfl rfl (by simp [Value.cells]) rfl rfl rfl ?_; clear S a H; intro gl1 w a H S
  refine l_pure S (p_assign rfl) rfl rfl rfl ?_; clear S a; intro a S
  refine l_nil ?_
  refine e_then ?_
  refine wp_seq ?_
  refine wp_seq ?_
  refine c_region ?_
  refine l_pure S (p_move rfl) rfl rfl rfl ?_; clear S a; intro a S
  refine l_nil ?_
  refine e_then ?_
  refine c_cond (b := false) S rfl (fun h => by cases h) (fun _ => ?_)
  refine wp_skip ?_
  refine e_then ?_
  refine wp_seq ?_
  refine c_region ?_
  refine l_pure S (p_move rfl) rfl rfl rfl ?_; clear S a; intro a S
  refine l_pure S (p_move rfl) rfl rfl rfl ?_; clear S a; intro a S
  refine l_pure S (p_len Tryz.underlying22 rfl) rfl rfl rfl ?_; clear S a; intro a S
  refine l_pure S (p_conv rfl (fun w => cv_int (Tryz.underlying3) (Tryz.underlying53) (nat_toU (x := ks.length) (by omega)))) rfl rfl rfl ?_; clear S a; intro a S
  have hcon := rf.dig_ wb _ B _ ks.length (by omega) H
  rw [NK_str] at hcon
  refine l_call S rfl rfl Tryz.func20 rfl rfl (hcon) rfl rfl rfl ?_
  rintro e w ⟨rfl, hH⟩
  refine ⟨_, rfl, ?_⟩; clear S a; intro a S
  clear H hcon; have H := hH; clear hH
  refine l_lit [(.tmp 21)] (vs := [.string (NK ks.length)]) S H rfl rfl Tryz.underlying22 sz9 zv9 rfl rfl (by simp [Value.cells]) rfl rfl rfl ?_; clear S a H; intro gl4 w a H S
  refine l_own (n := 2) (m := 1) [_] (xs := [.string ⟨#[69, 86, 65, 76, 83, 72, 65]⟩, .string (strOfNums (px.hexB (sha.sum (ints sc))))]) (ow := [(gl1, .cells #[.string ⟨#[69, 86, 65, 76, 83, 72, 65]⟩, .string (strOfNums (px.hexB (sha.sum (ints sc))))] 9 (0, 0))]) (L := L0) S H rfl rfl rfl (own_lits 9 gl1 [.string ⟨#[69, 86, 65, 76, 83, 72, 65]⟩, .string (strOfNums (px.hexB (sha.sum (ints sc))))] 2 rfl) (src_lit (c := 1) (vs := [.string (NK ks.length)]) H List.mem_cons_self Tryz.underlying22 (by simp [Value.oneCell'])) Tryz.underlying22 in9 rfl (by omega) (by decide) rfl rfl rfl ?_; clear S a H; intro vn5 own5 w a hwn5 H S
  obtain ⟨An5, cn5, rfl, _⟩ := hwn5.slice
  replace H : HH B wb _ ((gl4, .cells #[.string (NK ks.length)] 9 (0, 0)) :: (own5 ++ L0)) := H
  refine l_pure S (p_assign rfl) rfl rfl rfl ?_; clear S a; intro a S
  refine l_nil ?_
  refine e_then ?_
  refine wp_seq ?_
  refine c_region ?_
  refine l_pure S (p_move rfl) rfl rfl rfl ?_; clear S a; intro a S
  refine l_pure S (p_move rfl) rfl rfl rfl ?_; clear S a; intro a S
  refine l_own (n := (2 + 1)) (m := ks.length) [_] (xs := ([.string ⟨#[69, 86, 65, 76, 83, 72, 65]⟩, .string (strOfNums (px.hexB (sha.sum (ints sc))))] ++ [.string (NK ks.length)])) (ow := own5) (L := L0) S H rfl rfl rfl hwn5 (src_C (h1 := fun _ => rfl) Tryz.underlying22 (hk0 _ H.below)) Tryz.underlying22 in9 rfl (by omega) (by decide) rfl rfl rfl ?_; clear S a H; intro vn6 own6 w a hwn6 H S
  obtain ⟨An6, cn6, rfl, _⟩ := hwn6.slice
  replace H : HH B wb _ ((gl4, .cells #[.string (NK ks.length)] 9 (0, 0)) :: (own6 ++ L0)) := H
  refine l_pure S (p_move rfl) rfl rfl rfl ?_; clear S a; intro a S
  refine l_own (n := ((2 + 1) + ks.length)) (m := az.length) [_] (xs := (([.string ⟨#[69, 86, 65, 76, 83, 72, 65]⟩, .string (strOfNums (px.hexB (sha.sum (ints sc))))] ++ [.string (NK ks.length)]) ++ (ks.map Value.string))) (ow := own6) (L := L0) S H rfl rfl rfl hwn6 (src_C (h1 := fun _ => rfl) Tryz.underlying22 (ha0 _ H.below)) Tryz.underlying22 in9 rfl (by omega) (by decide) rfl rfl rfl ?_; clear S a H; intro vn7 own7 w a hwn7 H S
  obtain ⟨An7, cn7, rfl, _⟩ := hwn7.slice
  replace H : HH B wb _ ((gl4, .cells #[.string (NK ks.length)] 9 (0, 0)) :: (own7 ++ L0)) := H
  refine l_pure S (p_assign rfl) rfl rfl rfl ?_; clear S a; intro a S
  refine l_nil ?_
  refine e_then ?_
  refine wp_ret ?_
  replace H : HH B wb _ (own7 ++ L0) := H.sub (.cons _ (List.Sublist.append (.refl _) (.refl _)))
  have eL : (((2 + 1) + ks.length) + az.length) = (TL false sc ks az).length := by unfold TL; simp; omega
  rw [eL] at S hwn7
  refine r_ret1 S rfl rfl ⟨An7, cn7, own7, rfl, ?_, H⟩
  have e2 : (TL false sc ks az).map Value.string = ((([.string ⟨#[69, 86, 65, 76, 83, 72, 65]⟩, .string (strOfNums (px.hexB (sha.sum (ints sc))))] ++ [.string (NK ks.length)]) ++ (ks.map Value.string)) ++ (az.map Value.string)) := by unfold TL; simp [EVSHA]
  rw [e2]; exact hwn7
theorem sT_ (wb w0 : World) (B : Nat) (L0 : dc.Bk) (wh : Bool) (sc : ByteArray) (Ak Aa : Option Addr) (ck ca : Nat) (ks az : List ByteArray) (hk0 : ∀ w, Below B wb w → Kd.string.C w Ak ks.length ks) (ha0 : ∀ w, Below B wb w → Kd.string.C w Aa az.length az) (hsc : sc.size ≤ 2000) (hks : ks.length ≤ 20) (has : az.length ≤ 20) (H : HH B wb w0 L0) : Calls Tryz.prog 9 #[.string sc, .slice Ak ks.length ck, .slice Aa az.length ca, .bool wh] w0 fun e w' => ∃ A c ow, e = .returned (.slice A (TL wh sc ks az).length c) ∧ Own 9 1 (.slice A (TL wh sc ks az).length c) (TL wh sc ks az).length ((TL wh sc ks az).map Value.string) ow ∧ HH B wb w' (ow ++ L0) := by
  cases wh
  · exact sT_f wb w0 B L0 sc Ak Aa ck ca ks az hk0 ha0 hsc hks has H
  · exact sT_t wb w0 B L0 sc Ak Aa ck ca ks az hk0 ha0 hsc hks has H
set_option maxHeartbeats 1000000 in
theorem law_calls (w0 : World) (ht0 : Lib.TabIs Tryz.prog w0 "internal/strconv.uint64pow10" .u64 Lib.pow10Tab) (wh : Bool) (sc : ByteArray) (Ak Aa : Option Addr) (ck ca : Nat) (ks az : List ByteArray) (hk : Kd.string.C w0 Ak ks.length ks) (ha : Kd.string.C w0 Aa az.length az) (hck : ks.length ≤ ck) (hca : az.length ≤ ca) : Calls Tryz.prog 3 #[.string sc, .slice Ak ks.length ck, .slice Aa az.length ca, .bool wh] w0 fun e w' => e = .returned (.bool true) ∧ Below w0.heap.size w0 w' := by
  obtain ⟨B, hBw⟩ : ∃ B, B = w0.heap.size := ⟨_, rfl⟩
  obtain ⟨wb, hwb⟩ : ∃ wb, wb = w0 := ⟨_, rfl⟩
  obtain ⟨L0, hL0⟩ : ∃ L0 : dc.Bk, L0 = [] := ⟨_, rfl⟩
  have H : HH B wb w0 L0 := by subst hBw hwb hL0; exact HH.start _
  have ht : Lib.TabBelow Tryz.prog B wb "internal/strconv.uint64pow10" .u64 Lib.pow10Tab := by subst hBw hwb; exact Lib.tabBelow_of_tabIs ht0
  have hk0 : ∀ w, Below B wb w → Kd.string.C w Ak ks.length ks := by subst hBw hwb; exact fun w hb => C_later hk hb
  have ha0 : ∀ w, Below B wb w → Kd.string.C w Aa az.length az := by subst hBw hwb; exact fun w hb => C_later ha hb
  clear hk ha
  refine c_enter (args := [.string sc, .slice Ak ks.length ck, .slice Aa az.length ca, .bool wh]) (k := 45) Tryz.func3 rfl rfl rfl (fun a S => ?_)
  refine wp_seq ?_
  refine c_region ?_
  refine l_pure S (p_assign rfl) rfl rfl rfl ?_; clear S a; intro a S
  refine l_nil ?_
  refine e_then ?_
  refine wp_seq ?_
  refine wp_seq ?_
  refine c_region ?_
  refine l_pure S (p_move rfl) rfl rfl rfl ?_; clear S a; intro a S
  refine l_pure S (p_lens Tryz.underlying9 rfl) rfl rfl rfl ?_; clear S a; intro a S
  refine l_pure S (p_gtr rfl rfl) rfl rfl rfl ?_; clear S a; intro a S
  refine l_pure S (p_move rfl) rfl rfl rfl ?_; clear S a; intro a S
  refine l_split (S.of 14 rfl) (fun bc3 => ?_) (fun bc3 => ?_)
  · skip
    have c3 := bc3
    have c3 := of_decide_eq_true c3
    refine l_off S rfl rfl rfl rfl bc3 rfl rfl ?_; clear S a; intro a S
    refine l_off S rfl rfl rfl rfl bc3 rfl rfl ?_; clear S a; intro a S
    refine l_off S rfl rfl rfl rfl bc3 rfl rfl ?_; clear S a; intro a S
    refine l_pure S (p_pick_t rfl bc3 rfl) rfl rfl rfl ?_; clear S a; intro a S
    refine l_pure S (p_move rfl) rfl rfl rfl ?_; clear S a; intro a S
    refine l_off S rfl rfl rfl rfl rfl rfl rfl ?_; clear S a; intro a S
    refine l_off S rfl rfl rfl rfl rfl rfl rfl ?_; clear S a; intro a S
    refine l_off S rfl rfl rfl rfl rfl rfl rfl ?_; clear S a; intro a S
    refine l_pure S (p_pick_t rfl rfl rfl) rfl rfl rfl ?_; clear S a; intro a S
    refine l_nil ?_
    refine e_then ?_
    refine c_cond (b := true) S rfl (fun _ => ?_) (fun h => by cases h)
    refine wp_seq ?_
    refine c_region ?_
    refine l_pure S (p_assign rfl) rfl rfl rfl ?_; clear S a; intro a S
    refine l_nil ?_
    refine e_then ?_
    refine wp_ret ?_
    refine e_then_ret ?_
    first | exact r_ret1 S rfl rfl ⟨rfl, by have := H.below; rw [hBw, hwb] at this; exact this⟩ | exact r_ret1 S rfl rfl ⟨by rw [beq_self_eq_true], by have := H.below; rw [hBw, hwb] at this; exact this⟩ | exact r_ret1 S rfl rfl ⟨by simp, by have := H.below; rw [hBw, hwb] at this; exact this⟩
  · skip
    have c3 := bc3
    have c3 := of_decide_eq_false c3
    refine l_on S rfl rfl rfl rfl bc3 ?_
    refine l_pure S (p_move rfl) rfl rfl rfl ?_; clear S a; intro a S
    refine l_on S rfl rfl rfl rfl bc3 ?_
    refine l_call S rfl rfl Tryz.func5 rfl rfl (rf.fits_ wb _ B _ Ak ck ks hk0 (hk0 _ (Below.refl _ _)).2.1 H) rfl rfl rfl ?_
    rintro e w ⟨⟨b1, rfl⟩, hH⟩
    refine ⟨_, rfl, ?_⟩; clear S a; intro a S
    clear H; have H := hH; clear hH
    refine l_on S rfl rfl rfl rfl bc3 ?_
    refine l_pure S (p_not rfl) rfl rfl rfl ?_; clear S a; intro a S
    refine l_pure S (p_pick_f rfl bc3 rfl) rfl rfl rfl ?_; clear S a; intro a S
    refine l_pure S (p_move rfl) rfl rfl rfl ?_; clear S a; intro a S
    refine l_split (S.of 19 rfl) (fun bc10 => ?_) (fun bc10 => ?_)
    · skip
      have c10 := bc10
      replace c10 := not_eq_true_ c10
      
      refine l_off S rfl rfl rfl rfl bc10 rfl rfl ?_; clear S a; intro a S
      refine l_off S rfl rfl rfl rfl bc10 rfl rfl ?_; clear S a; intro a S
      refine l_off S rfl rfl rfl rfl bc10 rfl rfl ?_; clear S a; intro a S
      refine l_pure S (p_pick_t rfl bc10 rfl) rfl rfl rfl ?_; clear S a; intro a S
      refine l_nil ?_
      refine e_then ?_
      refine c_cond (b := true) S rfl (fun _ => ?_) (fun h => by cases h)
      refine wp_seq ?_
      refine c_region ?_
      refine l_pure S (p_assign rfl) rfl rfl rfl ?_; clear S a; intro a S
      refine l_nil ?_
      refine e_then ?_
      refine wp_ret ?_
      refine e_then_ret ?_
      first | exact r_ret1 S rfl rfl ⟨rfl, by have := H.below; rw [hBw, hwb] at this; exact this⟩ | exact r_ret1 S rfl rfl ⟨by rw [beq_self_eq_true], by have := H.below; rw [hBw, hwb] at this; exact this⟩ | exact r_ret1 S rfl rfl ⟨by simp, by have := H.below; rw [hBw, hwb] at this; exact this⟩
    · skip
      have c10 := bc10
      replace c10 := not_eq_false_ c10
      
      refine l_on S rfl rfl rfl rfl bc10 ?_
      refine l_pure S (p_move rfl) rfl rfl rfl ?_; clear S a; intro a S
      refine l_on S rfl rfl rfl rfl bc10 ?_
      refine l_call S rfl rfl Tryz.func5 rfl rfl (rf.fits_ wb _ B _ Aa ca az ha0 (ha0 _ (Below.refl _ _)).2.1 H) rfl rfl rfl ?_
      rintro e w ⟨⟨b2, rfl⟩, hH⟩
      refine ⟨_, rfl, ?_⟩; clear S a; intro a S
      clear H; have H := hH; clear hH
      refine l_on S rfl rfl rfl rfl bc10 ?_
      refine l_pure S (p_not rfl) rfl rfl rfl ?_; clear S a; intro a S
      refine l_pure S (p_pick_f rfl bc10 rfl) rfl rfl rfl ?_; clear S a; intro a S
      refine l_nil ?_
      refine e_then ?_
      refine c_cond S rfl (fun bc16 => ?_) (fun bc16 => ?_)
      · skip
        have c16 := bc16
        replace c16 := not_eq_true_ c16
        
        refine wp_seq ?_
        refine c_region ?_
        refine l_pure S (p_assign rfl) rfl rfl rfl ?_; clear S a; intro a S
        refine l_nil ?_
        refine e_then ?_
        refine wp_ret ?_
        refine e_then_ret ?_
        first | exact r_ret1 S rfl rfl ⟨rfl, by have := H.below; rw [hBw, hwb] at this; exact this⟩ | exact r_ret1 S rfl rfl ⟨by rw [beq_self_eq_true], by have := H.below; rw [hBw, hwb] at this; exact this⟩ | exact r_ret1 S rfl rfl ⟨by simp, by have := H.below; rw [hBw, hwb] at this; exact this⟩
      · skip
        have c16 := bc16
        replace c16 := not_eq_false_ c16
        
        refine wp_skip ?_
        refine e_then ?_
        refine wp_seq ?_
        refine wp_seq ?_
        refine c_region ?_
        refine l_pure S (p_move rfl) rfl rfl rfl ?_; clear S a; intro a S
        refine l_pure S (p_move rfl) rfl rfl rfl ?_; clear S a; intro a S
        refine l_pure S (p_move rfl) rfl rfl rfl ?_; clear S a; intro a S
        refine l_call S rfl rfl Tryz.func6 rfl rfl (rf.srt_ wb _ B _ sc Ak ck ks hk0 (hk0 _ (Below.refl _ _)).2.1 Aa ca az ha0 (ha0 _ (Below.refl _ _)).2.1 H) rfl rfl rfl ?_
        rintro e w ⟨r, rfl, hrr, hH⟩
        refine ⟨_, rfl, ?_⟩; clear S a; intro a S
        clear H; have H := hH; clear hH
        refine l_pure S (p_not rfl) rfl rfl rfl ?_; clear S a; intro a S
        refine l_nil ?_
        refine e_then ?_
        refine c_cond S rfl (fun bc20 => ?_) (fun bc20 => ?_)
        · skip
          have c20 := bc20
          replace c20 := not_eq_true_ c20
          
          refine wp_seq ?_
          refine c_region ?_
          refine l_pure S (p_assign rfl) rfl rfl rfl ?_; clear S a; intro a S
          refine l_nil ?_
          refine e_then ?_
          refine wp_ret ?_
          refine e_then_ret ?_
          first | exact r_ret1 S rfl rfl ⟨rfl, by have := H.below; rw [hBw, hwb] at this; exact this⟩ | exact r_ret1 S rfl rfl ⟨by rw [beq_self_eq_true], by have := H.below; rw [hBw, hwb] at this; exact this⟩ | exact r_ret1 S rfl rfl ⟨by simp, by have := H.below; rw [hBw, hwb] at this; exact this⟩
        · skip
          have c20 := bc20
          replace c20 := not_eq_false_ c20
          
          refine wp_skip ?_
          refine e_then ?_
          refine wp_seq ?_
          refine c_region ?_
          refine l_pure S (p_move rfl) rfl rfl rfl ?_; clear S a; intro a S
          refine l_pure S (p_move rfl) rfl rfl rfl ?_; clear S a; intro a S
          refine l_pure S (p_move rfl) rfl rfl rfl ?_; clear S a; intro a S
          refine l_pure S (p_move rfl) rfl rfl rfl ?_; clear S a; intro a S
          obtain ⟨h1, h2, h3, h4, h5⟩ := hrr c20
          have hcon := sw.write_ w (Lib.tabBelow_of_tabIs (ht.on H.below).here) wh sc Ak Aa ck ca ks az (hk0 _ H.below) (ha0 _ H.below) (by omega) (by omega) (by omega) (fun s hs => by have := h4 s hs; omega) (fun s hs => by have := h5 s hs; omega)
          refine l_call S rfl rfl Tryz.func7 rfl rfl (hcon) rfl rfl rfl ?_
          rintro e w ⟨rfl, hb⟩
          refine ⟨_, rfl, ?_⟩; clear S a; intro a S
          replace H := H.later hb; clear hb hcon
          refine l_pure S (p_move rfl) rfl rfl rfl ?_; clear S a; intro a S
          refine l_pure S (p_extract rfl rfl) rfl rfl rfl ?_; clear S a; intro a S
          refine l_pure S (p_extract rfl rfl) rfl rfl rfl ?_; clear S a; intro a S
          refine l_pure S (p_assign rfl) rfl rfl rfl ?_; clear S a; intro a S
          refine l_pure S (p_assign rfl) rfl rfl rfl ?_; clear S a; intro a S
          refine l_nil ?_
          refine e_then ?_
          refine wp_seq ?_
          refine c_region ?_
          refine l_pure S (p_move rfl) rfl rfl rfl ?_; clear S a; intro a S
          refine l_pure S (p_eql rfl rfl) rfl rfl rfl ?_; clear S a; intro a S
          refine l_pure S (p_move rfl) rfl rfl rfl ?_; clear S a; intro a S
          refine l_on S rfl rfl rfl rfl rfl ?_
          refine l_pure S (p_move rfl) rfl rfl rfl ?_; clear S a; intro a S
          refine l_on S rfl rfl rfl rfl rfl ?_
          refine l_pure S (p_move rfl) rfl rfl rfl ?_; clear S a; intro a S
          refine l_on S rfl rfl rfl rfl rfl ?_
          refine l_pure S (p_move rfl) rfl rfl rfl ?_; clear S a; intro a S
          refine l_on S rfl rfl rfl rfl rfl ?_
          refine l_pure S (p_move rfl) rfl rfl rfl ?_; clear S a; intro a S
          refine l_on S rfl rfl rfl rfl rfl ?_
          refine l_pure S (p_move rfl) rfl rfl rfl ?_; clear S a; intro a S
          refine l_on S rfl rfl rfl rfl rfl ?_
          have hcon := sT_ wb _ B L0 wh sc Ak Aa ck ca ks az hk0 ha0 h1 h2 h3 H
          refine l_call S rfl rfl Tryz.func9 rfl rfl (hcon) rfl rfl rfl ?_
          rintro e w ⟨At, ct, owt, rfl, hwt, hH⟩
          refine ⟨_, rfl, ?_⟩; clear S a; intro a S
          clear H hcon; have H := hH; clear hH
          refine l_on S rfl rfl rfl rfl rfl ?_
          obtain ⟨hz1, hz2⟩ := TL_size (wh := wh) h1 h2 h3 h4 h5
          obtain ⟨Az, cz, hez, hcz⟩ := hwt.slice
          injection hez with z1 z2 z3
          subst z1; subst z3
          have hcon := rf.texts_ w w w.heap.size [] At ct (TL wh sc ks az) (fun w' hb => C_later (own_strC hwt H (by omega)) hb) hz1 hz2 (HH.start w)
          refine l_call S rfl rfl Tryz.func8 rfl rfl (hcon) rfl rfl rfl ?_
          rintro e w ⟨rfl, hH⟩
          refine ⟨_, rfl, ?_⟩; clear S a; intro a S
          replace H := H.later hH.below; clear hH hcon
          refine l_on S rfl rfl rfl rfl rfl ?_
          refine l_pure S (p_seql rfl rfl) rfl rfl rfl ?_; clear S a; intro a S
          refine l_pure S (p_pick_t rfl rfl rfl) rfl rfl rfl ?_; clear S a; intro a S
          refine l_pure S (p_assign rfl) rfl rfl rfl ?_; clear S a; intro a S
          refine l_nil ?_
          refine e_then ?_
          refine wp_ret ?_
          first | exact r_ret1 S rfl rfl ⟨rfl, by have := H.below; rw [hBw, hwb] at this; exact this⟩ | exact r_ret1 S rfl rfl ⟨by rw [beq_self_eq_true], by have := H.below; rw [hBw, hwb] at this; exact this⟩ | exact r_ret1 S rfl rfl ⟨by simp, by have := H.below; rw [hBw, hwb] at this; exact this⟩
end lw
end Go.Proofs.YtnmelglnkefjfaaGreatDoor.wr
