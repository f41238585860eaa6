/- FnCommandText: the law, walked. -/
import Derived.Test.YtnmelglnkefjfaaDoorCs
import Derived.Test.YtnmelglnkefjfaaDoorCr
namespace Go.Proofs.YtnmelglnkefjfaaDoor.ct
open Go.RowKit Go.Proofs.HHW Go.Proofs.YtnmelglnkefjfaaDoorW.PrintWords Go.Proofs.YtnmelglnkefjfaaDoor.cm
set_option linter.unusedVariables false
set_option linter.unusedSimpArgs false
namespace lw
theorem ag9 : aggB Tryd.prog 9 = some false := by kernel_rfl
theorem sz9 : szB Tryd.prog 9 = some 1 := by kernel_rfl


theorem flat_len {l : List ByteArray} {i : Nat} (h : ∀ s ∈ l, s.size ≤ 1000) : ((l.take i).flatMap fun s => [32] ++ quo s).length ≤ l.length * 10003 := by
  have key : ∀ l : List ByteArray, (∀ s ∈ l, s.size ≤ 1000) → (l.flatMap fun s => [32] ++ quo s).length ≤ l.length * 10003 := by
    intro l
    induction l with
    | nil => intro _; simp
    | cons s l ih =>
      intro hl
      have h3 := ih (fun s hs => hl s (List.mem_cons_of_mem _ hs))
      have h4 := hl s List.mem_cons_self
      have h5 := quo_len s
      simp only [List.flatMap_cons, List.length_append, List.length_cons, List.length_nil] at h3 ⊢
      omega
  have h2 := key (l.take i) (fun s hs => h s (List.mem_of_mem_take hs))
  have h3 : (l.take i).length ≤ l.length := by rw [List.length_take]; omega
  exact Nat.le_trans h2 (Nat.mul_le_mul_right 10003 h3)
theorem asc_all {s : ByteArray} (h : ∀ j, j < s.size → HHW.bt s (j : Int) < 128) : ∀ x ∈ ints s, x < 128 := by
  intro x hx
  obtain ⟨j, hj⟩ := List.getElem?_of_mem hx
  have hlt := (List.getElem?_eq_some_iff.1 hj).1
  rw [ints_len] at hlt
  have h1 := h j hlt
  rw [bt_get hlt] at h1
  unfold ints at hj
  rw [List.getElem?_map] at hj
  obtain ⟨b, hb, rfl⟩ := Option.map_eq_some_iff.1 hj
  have : s.get! j = b := by
    cases s with | mk d =>
      show d[j]! = b
      rw [Array.getElem?_toList] at hb
      rw [getElem!_pos d j hlt]
      rw [Array.getElem?_eq_getElem hlt] at hb
      injection hb
  rw [← this]
  exact h1
theorem toUpperD_asc {s : ByteArray} (h : ∀ x ∈ ints s, x < 128) : Lib.toUpperD s.data.toList = Lib.toUpperA s.data.toList := by
  refine Lib.toUpperD_ascii _ (fun b hb => ?_)
  have := h (b.toNat : Int) (by unfold ints; exact List.mem_map.2 ⟨b, hb, rfl⟩)
  omega
theorem cell_later {w0 w : World} (hb : Below w0.heap.size w0 w) {a : Addr} {v : Value} (h : w0.cell? a = some v) : w.cell? a = some v := (HH.start w0 |>.later hb |>.old (cell_lt h)).trans h
theorem u8_later {g3 g4 : Nat} {w0 w : World} (hb : Below w0.heap.size w0 w) (h : Lib.Utf8Tabs g3 g4 w0) : Lib.Utf8Tabs g3 g4 w := ⟨fun c hc => cell_later hb (h.1 c hc), fun i hi => ⟨cell_later hb (h.2 i hi).1, cell_later hb (h.2 i hi).2⟩⟩
theorem tabs_later {w0 : World} (h : li.Tabs w0) : ∀ w, Below w0.heap.size w0 w → li.Tabs w := by
  intro w hb
  refine ⟨?_, u8_later hb h.2.1, u8_later hb h.2.2⟩
  obtain ⟨R, oR, cap, h1, h2⟩ := h.1
  exact ⟨R, oR, cap, cell_later hb h1, fun i hi => ⟨cell_later hb (h2 i hi).1, cell_later hb (h2 i hi).2.1, cell_later hb (h2 i hi).2.2.1, cell_later hb (h2 i hi).2.2.2.1, cell_later hb (h2 i hi).2.2.2.2⟩⟩
theorem spec_ (w0 : World) (nm : ByteArray) (hnm : nm.size ≤ 1000) (A : Option Addr) (c : Nat) (l : List ByteArray) (hC : Kd.string.C w0 A l.length l) (hl : l.length ≤ 1000) (hls : ∀ s ∈ l, s.size ≤ 1000) : Calls Tryd.prog 15 #[.string nm, .slice A l.length c] w0 fun e w' => e = .returned (.string (strOfNums (sg.ctext (upS nm) l))) ∧ Below w0.heap.size w0 w' := by
  have H := HH.start w0
  refine c_enter (args := [.string nm, .slice A l.length c]) (k := 24) Tryd.func15 rfl rfl rfl (fun a S => ?_)
  refine wp_seq ?_
  refine c_region ?_
  refine l_pure S (p_assign rfl) rfl rfl rfl ?_; clear S a; intro a S
  refine l_nil ?_
  refine e_then ?_
  refine wp_seq ?_
  refine c_region ?_
  refine l_pure S (p_move rfl) rfl rfl rfl ?_; clear S a; intro a S
  refine l_call S rfl rfl Tryd.func35 rfl rfl (rf.upper_ _ nm (by omega)) rfl rfl rfl ?_
  rintro e w ⟨rfl, hb⟩
  refine ⟨_, rfl, ?_⟩; clear S a; intro a S
  replace H := H.later hb; clear hb
  have hus : (upS nm).size = nm.size := by unfold upS; rw [strOfNums_size, List.length_map, ints_len]
  refine l_call S rfl rfl Tryd.func34 rfl rfl (rf.quoted_ _ (upS nm) (by omega)) rfl rfl rfl ?_
  rintro e w ⟨rfl, hb⟩
  refine ⟨_, rfl, ?_⟩; clear S a; intro a S
  replace H := H.later hb; clear hb
  have hq1 := quo_len (upS nm)
  refine l_pure S (p_saddL ([91]) ((quo (upS nm))) rfl rfl rfl rfl (by simp only [List.length_append, List.length_cons, List.length_nil]; omega)) rfl rfl rfl ?_; clear S a; intro a S
  refine l_pure S (p_assign rfl) rfl rfl rfl ?_; clear S a; intro a S
  refine l_nil ?_
  refine e_then ?_
  refine wp_seq ?_
  refine wp_seq ?_
  refine c_region ?_
  refine l_pure S (p_move rfl) rfl rfl rfl ?_; clear S a; intro a S
  refine l_pure S (p_len Tryd.underlying36 rfl) rfl rfl rfl ?_; clear S a; intro a S
  refine l_pure S (p_move rfl) rfl rfl rfl ?_; clear S a; intro a S
  refine l_nil ?_
  refine e_then ?_
  refine wp_block ?_
  rw [show strOfNums ([91] ++ quo (upS nm)) = strOfNums ([91] ++ quo (upS nm) ++ (l.take 0).flatMap fun s => [32] ++ quo s) by simp] at S
  refine c_loop (σ := Nat) (fun s_ a w => match s_ with | i => SL a 26 [] [(5, .string (strOfNums ([91] ++ quo (upS nm) ++ (l.take i).flatMap fun s => [32] ++ quo s))), (12, .slice A l.length c), (13, .int .i64 (l.length : Int)), (14, .int .i64 (i : Int))] ∧ HH (w0.heap.size) w0 w [] ∧ (i ≤ l.length)) (fun s_ => match s_ with | i => l.length - i) 0 ⟨S.only ⟨rfl, rfl, rfl, rfl, trivial⟩, H, Nat.zero_le _⟩ ?_
  clear S a H; rintro i a w ⟨S, H, hinv⟩
  have hfl := flat_len (i := i) hls
  have hql := quo_len (upS nm)
  refine wp_seq ?_
  refine c_region ?_
  refine l_pure S (p_lss rfl rfl) rfl rfl rfl ?_; clear S a; intro a S
  refine l_nil ?_
  refine e_then ?_
  refine wp_seq ?_
  refine c_cond S rfl (fun bc2 => ?_) (fun bc2 => ?_)
  · skip
    have c2 := bc2
    have c2 := of_decide_eq_true c2
    refine wp_skip ?_
    refine e_then ?_
    refine wp_seq ?_
    refine wp_block ?_
    refine wp_seq ?_
    refine c_region ?_
    obtain ⟨ad, hA⟩ := C_some hC (show i < l.length by omega)
    subst hA
    refine l_pure S (p_indexAddr rfl rfl (fun w => ia_any Tryd.underlying36 sz9 (by omega) (by omega))) rfl rfl rfl ?_; clear S a; intro a S
    refine l_read S H (r_row (i := i) hC rfl (by rw [Int.toNat_natCast, Nat.mul_one]) (get_some ByteArray.empty (by omega)) ag9 rfl) rfl rfl rfl ?_; clear S a; intro a S
    refine l_pure S (p_assign rfl) rfl rfl rfl ?_; clear S a; intro a S
    refine l_nil ?_
    refine e_then ?_
    refine c_region ?_
    refine l_pure S (p_move rfl) rfl rfl rfl ?_; clear S a; intro a S
    refine l_pure S (p_move rfl) rfl rfl rfl ?_; clear S a; intro a S
    refine l_call S rfl rfl Tryd.func34 rfl rfl (rf.quoted_ _ (l.getD i ByteArray.empty) (hls _ (pr.mem_getD (show i < l.length by omega)))) rfl rfl rfl ?_
    rintro e w ⟨rfl, hb⟩
    refine ⟨_, rfl, ?_⟩; clear S a; intro a S
    replace H := H.later hb; clear hb
    have hq1 := quo_len (l.getD i ByteArray.empty)
    have hq2 := hls _ (pr.mem_getD (show i < l.length by omega))
    refine l_pure S (p_saddL ([32]) ((quo (l.getD i ByteArray.empty))) rfl rfl rfl rfl (by simp only [List.length_append, List.length_cons, List.length_nil]; omega)) rfl rfl rfl ?_; clear S a; intro a S
    refine l_pure S (p_saddL (([91] ++ quo (upS nm) ++ (l.take i).flatMap fun s => [32] ++ quo s)) (([32] ++ (quo (l.getD i ByteArray.empty)))) rfl rfl rfl rfl (by simp only [List.length_append, List.length_cons, List.length_nil]; omega)) rfl rfl rfl ?_; clear S a; intro a S
    rw [List.append_assoc ([91] ++ quo (upS nm)), ← take_flat (fun s => [32] ++ quo s) (show i < l.length by omega)] at S
    refine l_pure S (p_assign rfl) rfl rfl rfl ?_; clear S a; intro a S
    refine l_nil ?_
    refine e_in 1 ?_
    refine e_then ?_
    refine c_region ?_
    refine l_pure S (p_add rfl rfl (nat_add (x := i) (y := 1) (by omega))) rfl rfl rfl ?_; clear S a; intro a S
    refine l_pure S (p_move rfl) rfl rfl rfl ?_; clear S a; intro a S
    refine l_nil ?_
    refine e_then ?_
    exact ⟨(i + 1), ⟨S.only ⟨rfl, rfl, rfl, rfl, trivial⟩, H, by omega⟩, (show l.length - (i + 1) < l.length - i by omega)⟩
  · skip
    have c2 := bc2
    have c2 := of_decide_eq_false c2
    refine wp_exit ?_
    refine e_then_exit ?_
    refine e_then_exit ?_
    refine e_in_exit ?_
    refine e_then ?_
    refine wp_seq ?_
    refine c_region ?_
    refine l_pure S (p_move rfl) rfl rfl rfl ?_; clear S a; intro a S
    refine l_pure S (p_saddL (([91] ++ quo (upS nm) ++ (l.take i).flatMap fun s => [32] ++ quo s)) ([93]) rfl rfl rfl rfl (by simp only [List.length_append, List.length_cons, List.length_nil]; omega)) rfl rfl rfl ?_; clear S a; intro a S
    refine l_pure S (p_assign rfl) rfl rfl rfl ?_; clear S a; intro a S
    refine l_nil ?_
    refine e_then ?_
    refine wp_ret ?_
    have hil : i = l.length := by omega
    rw [hil, List.take_of_length_le (Nat.le_refl _)] at S
    exact r_ret1 S rfl rfl ⟨by unfold sg.ctext jn; rw [List.append_assoc [91]], H.below⟩
theorem asc_ (w0 : World) (s : ByteArray) (hs : s.size ≤ 1000000) : Calls Tryd.prog 31 #[.string s] w0 fun e w' => ∃ b, e = .returned (.bool b) ∧ (b = true → ∀ x ∈ ints s, x < 128) ∧ Below w0.heap.size w0 w' := by
  have H := HH.start w0
  refine c_enter (args := [.string s]) (k := 13) Tryd.func31 rfl rfl rfl (fun a S => ?_)
  refine wp_seq ?_
  refine c_region ?_
  refine l_pure S (p_assign rfl) rfl rfl rfl ?_; clear S a; intro a S
  refine l_nil ?_
  refine e_then ?_
  refine wp_seq ?_
  refine wp_seq ?_
  refine c_region ?_
  refine l_pure S (p_assign rfl) rfl rfl rfl ?_; clear S a; intro a S
  refine l_nil ?_
  refine e_then ?_
  refine wp_block ?_
  refine c_loop (σ := Nat) (fun s_ a w => match s_ with | i => SL a 14 [] [(0, .string s), (3, .int .i64 (i : Int))] ∧ HH (w0.heap.size) w0 w [] ∧ (i ≤ s.size ∧ ∀ j, j < i → HHW.bt s (j : Int) < 128)) (fun s_ => match s_ with | i => s.size - i) 0 ⟨S.only ⟨rfl, rfl, trivial⟩, H, ⟨Nat.zero_le _, fun j hj => by omega⟩⟩ ?_
  clear S a H; rintro i a w ⟨S, H, hinv⟩
  obtain ⟨hi, hok⟩ := hinv
  refine wp_seq ?_
  refine wp_seq ?_
  refine c_region ?_
  refine l_pure S (p_move rfl) rfl rfl rfl ?_; clear S a; intro a S
  refine l_pure S (p_move rfl) rfl rfl rfl ?_; clear S a; intro a S
  refine l_pure S (p_lens Tryd.underlying9 rfl) rfl rfl rfl ?_; clear S a; intro a S
  refine l_pure S (p_lss rfl rfl) rfl rfl rfl ?_; clear S a; intro a S
  refine l_nil ?_
  refine e_then ?_
  refine c_cond S rfl (fun bc3 => ?_) (fun bc3 => ?_)
  · skip
    have c3 := bc3
    have c3 := of_decide_eq_true c3
    refine wp_skip ?_
    refine e_then ?_
    refine wp_seq ?_
    refine wp_block ?_
    refine wp_seq ?_
    refine c_region ?_
    refine l_pure S (p_move rfl) rfl rfl rfl ?_; clear S a; intro a S
    refine l_pure S (p_move rfl) rfl rfl rfl ?_; clear S a; intro a S
    refine l_pure S (p_index rfl rfl (fun w => ix_string Tryd.underlying9 (by omega) (by omega))) rfl rfl rfl ?_; clear S a; intro a S
    refine l_pure S (p_gtr rfl rfl) rfl rfl rfl ?_; clear S a; intro a S
    refine l_nil ?_
    refine e_then ?_
    refine c_cond S rfl (fun bc5 => ?_) (fun bc5 => ?_)
    · skip
      have c5 := bc5
      have c5 := of_decide_eq_true c5
      refine wp_seq ?_
      refine c_region ?_
      refine l_pure S (p_assign rfl) rfl rfl rfl ?_; clear S a; intro a S
      refine l_nil ?_
      refine e_then ?_
      refine wp_ret ?_
      refine e_in_ret ?_
      refine e_then_ret ?_
      refine e_then_ret ?_
      refine e_in_ret ?_
      refine e_then_ret ?_
      exact r_ret1 S rfl rfl ⟨false, rfl, fun h => (by cases h), H.below⟩
    · skip
      have c5 := bc5
      have c5 := of_decide_eq_false c5
      refine wp_skip ?_
      refine e_in 1 ?_
      refine e_then ?_
      refine c_region ?_
      refine l_pure S (p_move rfl) rfl rfl rfl ?_; clear S a; intro a S
      refine l_pure S (p_add rfl rfl (nat_add (x := i) (y := 1) (by omega))) rfl rfl rfl ?_; clear S a; intro a S
      refine l_pure S (p_assign rfl) rfl rfl rfl ?_; clear S a; intro a S
      refine l_nil ?_
      refine e_then ?_
      exact ⟨(i + 1), ⟨S.only ⟨rfl, rfl, trivial⟩, H, ⟨by omega, fun j hj => by rcases Nat.lt_or_ge j i with h | h; exact hok j h; obtain rfl : j = i := (by omega); omega⟩⟩, (show s.size - (i + 1) < s.size - i by omega)⟩
  · skip
    have c3 := bc3
    have c3 := of_decide_eq_false c3
    refine wp_exit ?_
    refine e_then_exit ?_
    refine e_then_exit ?_
    refine e_in_exit ?_
    refine e_then ?_
    refine wp_seq ?_
    refine c_region ?_
    refine l_pure S (p_assign rfl) rfl rfl rfl ?_; clear S a; intro a S
    refine l_nil ?_
    refine e_then ?_
    refine wp_ret ?_
    exact r_ret1 S rfl rfl ⟨true, rfl, fun _ => asc_all (fun j hj => hok j (by omega)), H.below⟩
theorem fits_ (w0 : World) (A : Option Addr) (c : Nat) (l : List ByteArray) (hC : Kd.string.C w0 A l.length l) (hl : l.length ≤ 9223372036854775807) : Calls Tryd.prog 12 #[.slice A l.length c] w0 fun e w' => ∃ b, e = .returned (.bool b) ∧ Below w0.heap.size w0 w' := by
  have H := HH.start w0
  refine c_enter (args := [.slice A l.length c]) (k := 17) Tryd.func12 rfl rfl rfl (fun a S => ?_)
  refine wp_seq ?_
  refine c_region ?_
  refine l_pure S (p_assign rfl) rfl rfl rfl ?_; clear S a; intro a S
  refine l_nil ?_
  refine e_then ?_
  refine wp_seq ?_
  refine wp_seq ?_
  refine c_region ?_
  refine l_pure S (p_move rfl) rfl rfl rfl ?_; clear S a; intro a S
  refine l_pure S (p_len Tryd.underlying36 rfl) rfl rfl rfl ?_; clear S a; intro a S
  refine l_pure S (p_gtr rfl rfl) rfl rfl rfl ?_; clear S a; intro a S
  refine l_nil ?_
  refine e_then ?_
  refine c_cond S rfl (fun bc3 => ?_) (fun bc3 => ?_)
  · skip
    have c3 := bc3
    have c3 := of_decide_eq_true c3
    refine wp_seq ?_
    refine c_region ?_
    refine l_pure S (p_assign rfl) rfl rfl rfl ?_; clear S a; intro a S
    refine l_nil ?_
    refine e_then ?_
    refine wp_ret ?_
    refine e_then_ret ?_
    exact r_ret1 S rfl rfl ⟨_, rfl, H.below⟩
  · skip
    have c3 := bc3
    have c3 := of_decide_eq_false c3
    refine wp_skip ?_
    refine e_then ?_
    refine wp_seq ?_
    refine wp_seq ?_
    refine c_region ?_
    refine l_pure S (p_move rfl) rfl rfl rfl ?_; clear S a; intro a S
    refine l_pure S (p_len Tryd.underlying36 rfl) rfl rfl rfl ?_; clear S a; intro a S
    refine l_pure S (p_move rfl) rfl rfl rfl ?_; clear S a; intro a S
    refine l_nil ?_
    refine e_then ?_
    refine wp_block ?_
    refine c_loop (σ := Nat) (fun s_ a w => match s_ with | i => SL a 18 [] [(8, .slice A l.length c), (9, .int .i64 (l.length : Int)), (10, .int .i64 (i : Int))] ∧ HH (w0.heap.size) w0 w [] ∧ (i ≤ l.length)) (fun s_ => match s_ with | i => l.length - i) 0 ⟨S.only ⟨rfl, rfl, rfl, trivial⟩, H, Nat.zero_le _⟩ ?_
    clear S a H; rintro i a w ⟨S, H, hinv⟩
    refine wp_seq ?_
    refine c_region ?_
    refine l_pure S (p_lss rfl rfl) rfl rfl rfl ?_; clear S a; intro a S
    refine l_nil ?_
    refine e_then ?_
    refine wp_seq ?_
    refine c_cond S rfl (fun bc6 => ?_) (fun bc6 => ?_)
    · skip
      have c6 := bc6
      have c6 := of_decide_eq_true c6
      refine wp_skip ?_
      refine e_then ?_
      refine wp_seq ?_
      refine wp_block ?_
      refine wp_seq ?_
      refine c_region ?_
      obtain ⟨ad, hA⟩ := C_some hC (show i < l.length by omega)
      subst hA
      refine l_pure S (p_indexAddr rfl rfl (fun w => ia_any Tryd.underlying36 sz9 (by omega) (by omega))) rfl rfl rfl ?_; clear S a; intro a S
      refine l_read S H (r_row (i := i) hC rfl (by rw [Int.toNat_natCast, Nat.mul_one]) (get_some ByteArray.empty (by omega)) ag9 rfl) rfl rfl rfl ?_; clear S a; intro a S
      refine l_pure S (p_assign rfl) rfl rfl rfl ?_; clear S a; intro a S
      refine l_nil ?_
      refine e_then ?_
      refine wp_seq ?_
      refine c_region ?_
      refine l_pure S (p_move rfl) rfl rfl rfl ?_; clear S a; intro a S
      refine l_pure S (p_lens Tryd.underlying9 rfl) rfl rfl rfl ?_; clear S a; intro a S
      refine l_pure S (p_gtr rfl rfl) rfl rfl rfl ?_; clear S a; intro a S
      refine l_nil ?_
      refine e_then ?_
      refine c_cond S rfl (fun bc8 => ?_) (fun bc8 => ?_)
      · skip
        have c8 := bc8
        have c8 := of_decide_eq_true c8
        refine wp_seq ?_
        refine c_region ?_
        refine l_pure S (p_assign rfl) rfl rfl rfl ?_; clear S a; intro a S
        refine l_nil ?_
        refine e_then ?_
        refine wp_ret ?_
        refine e_in_ret ?_
        refine e_then_ret ?_
        refine e_then_ret ?_
        refine e_in_ret ?_
        refine e_then_ret ?_
        exact r_ret1 S rfl rfl ⟨_, rfl, H.below⟩
      · skip
        have c8 := bc8
        have c8 := of_decide_eq_false c8
        refine wp_skip ?_
        refine e_in 1 ?_
        refine e_then ?_
        refine c_region ?_
        refine l_pure S (p_add rfl rfl (nat_add (x := i) (y := 1) (by omega))) rfl rfl rfl ?_; clear S a; intro a S
        refine l_pure S (p_move rfl) rfl rfl rfl ?_; clear S a; intro a S
        refine l_nil ?_
        refine e_then ?_
        exact ⟨(i + 1), ⟨S.only ⟨rfl, rfl, rfl, trivial⟩, H, by omega⟩, (show l.length - (i + 1) < l.length - i by omega)⟩
    · skip
      have c6 := bc6
      have c6 := of_decide_eq_false c6
      refine wp_exit ?_
      refine e_then_exit ?_
      refine e_then_exit ?_
      refine e_in_exit ?_
      refine e_then ?_
      refine wp_seq ?_
      refine c_region ?_
      refine l_pure S (p_assign rfl) rfl rfl rfl ?_; clear S a; intro a S
      refine l_nil ?_
      refine e_then ?_
      refine wp_ret ?_
      exact r_ret1 S rfl rfl ⟨_, rfl, H.below⟩
theorem right_ (w0 : World) (nm : ByteArray) (A : Option Addr) (c : Nat) (l : List ByteArray) (hC : Kd.string.C w0 A l.length l) (hl : l.length ≤ 9223372036854775807) : Calls Tryd.prog 13 #[.string nm, .slice A l.length c] w0 fun e w' => ∃ b, e = .returned (.bool b) ∧ (b = true → nm.size ≤ 200 ∧ l.length ≤ 50 ∧ (∀ s ∈ l, s.size ≤ 200) ∧ ∀ x ∈ ints nm, x < 128) ∧ Below w0.heap.size w0 w' := by
  have H := HH.start w0
  refine c_enter (args := [.string nm, .slice A l.length c]) (k := 27) Tryd.func13 rfl rfl rfl (fun a S => ?_)
  refine wp_seq ?_
  refine c_region ?_
  refine l_pure S (p_assign rfl) rfl rfl rfl ?_; clear S a; intro a S
  refine l_nil ?_
  refine e_then ?_
  refine wp_seq ?_
  refine wp_seq ?_
  refine c_region ?_
  refine l_pure S (p_move rfl) rfl rfl rfl ?_; clear S a; intro a S
  refine l_pure S (p_len Tryd.underlying36 rfl) rfl rfl rfl ?_; clear S a; intro a S
  refine l_pure S (p_move rfl) rfl rfl rfl ?_; clear S a; intro a S
  refine l_nil ?_
  refine e_then ?_
  refine wp_block ?_
  refine c_loop (σ := Nat) (fun s_ a w => match s_ with | i => SL a 29 [] [(0, .string nm), (7, .slice A l.length c), (8, .int .i64 (l.length : Int)), (9, .int .i64 (i : Int))] ∧ HH (w0.heap.size) w0 w [] ∧ (i ≤ l.length ∧ i ≤ 50 ∧ ∀ j, j < i → (l.getD j ByteArray.empty).size ≤ 200)) (fun s_ => match s_ with | i => l.length - i) 0 ⟨S.only ⟨rfl, rfl, rfl, rfl, trivial⟩, H, ⟨Nat.zero_le _, by omega, fun j hj => by omega⟩⟩ ?_
  clear S a H; rintro i a w ⟨S, H, hinv⟩
  obtain ⟨hi, h50, hok⟩ := hinv
  refine wp_seq ?_
  refine c_region ?_
  refine l_pure S (p_lss rfl rfl) rfl rfl rfl ?_; clear S a; intro a S
  refine l_nil ?_
  refine e_then ?_
  refine wp_seq ?_
  refine c_cond S rfl (fun bc3 => ?_) (fun bc3 => ?_)
  · skip
    have c3 := bc3
    have c3 := of_decide_eq_true c3
    refine wp_skip ?_
    refine e_then ?_
    refine wp_seq ?_
    refine wp_block ?_
    refine wp_seq ?_
    refine c_region ?_
    refine l_pure S (p_move rfl) rfl rfl rfl ?_; clear S a; intro a S
    obtain ⟨ad, hA⟩ := C_some hC (show i < l.length by omega)
    subst hA
    refine l_pure S (p_indexAddr rfl rfl (fun w => ia_any Tryd.underlying36 sz9 (by omega) (by omega))) rfl rfl rfl ?_; clear S a; intro a S
    refine l_read S H (r_row (i := i) hC rfl (by rw [Int.toNat_natCast, Nat.mul_one]) (get_some ByteArray.empty (by omega)) ag9 rfl) rfl rfl rfl ?_; clear S a; intro a S
    refine l_pure S (p_assign rfl) rfl rfl rfl ?_; clear S a; intro a S
    refine l_pure S (p_assign rfl) rfl rfl rfl ?_; clear S a; intro a S
    refine l_nil ?_
    refine e_then ?_
    refine wp_seq ?_
    refine c_region ?_
    refine l_pure S (p_move rfl) rfl rfl rfl ?_; clear S a; intro a S
    refine l_pure S (p_geq rfl rfl) rfl rfl rfl ?_; clear S a; intro a S
    refine l_pure S (p_move rfl) rfl rfl rfl ?_; clear S a; intro a S
    refine l_split (S.of 16 rfl) (fun bc5 => ?_) (fun bc5 => ?_)
    · skip
      have c5 := bc5
      have c5 := of_decide_eq_true c5
      refine l_off S rfl rfl rfl rfl bc5 rfl rfl ?_; clear S a; intro a S
      refine l_off S rfl rfl rfl rfl bc5 rfl rfl ?_; clear S a; intro a S
      refine l_off S rfl rfl rfl rfl bc5 rfl rfl ?_; clear S a; intro a S
      refine l_pure S (p_pick_t rfl bc5 rfl) rfl rfl rfl ?_; clear S a; intro a S
      refine l_nil ?_
      refine e_then ?_
      refine c_cond (b := true) S rfl (fun _ => ?_) (fun h => by cases h)
      refine wp_seq ?_
      refine c_region ?_
      refine l_pure S (p_assign rfl) rfl rfl rfl ?_; clear S a; intro a S
      refine l_nil ?_
      refine e_then ?_
      refine wp_ret ?_
      refine e_in_ret ?_
      refine e_then_ret ?_
      refine e_then_ret ?_
      refine e_in_ret ?_
      refine e_then_ret ?_
      exact r_ret1 S rfl rfl ⟨_, rfl, fun h => (by cases h), H.below⟩
    · skip
      have c5 := bc5
      have c5 := of_decide_eq_false c5
      refine l_on S rfl rfl rfl rfl bc5 ?_
      refine l_pure S (p_move rfl) rfl rfl rfl ?_; clear S a; intro a S
      refine l_on S rfl rfl rfl rfl bc5 ?_
      refine l_pure S (p_lens Tryd.underlying9 rfl) rfl rfl rfl ?_; clear S a; intro a S
      refine l_on S rfl rfl rfl rfl bc5 ?_
      refine l_pure S (p_gtr rfl rfl) rfl rfl rfl ?_; clear S a; intro a S
      refine l_pure S (p_pick_f rfl bc5 rfl) rfl rfl rfl ?_; clear S a; intro a S
      refine l_nil ?_
      refine e_then ?_
      refine c_cond S rfl (fun bc10 => ?_) (fun bc10 => ?_)
      · skip
        have c10 := bc10
        have c10 := of_decide_eq_true c10
        refine wp_seq ?_
        refine c_region ?_
        refine l_pure S (p_assign rfl) rfl rfl rfl ?_; clear S a; intro a S
        refine l_nil ?_
        refine e_then ?_
        refine wp_ret ?_
        refine e_in_ret ?_
        refine e_then_ret ?_
        refine e_then_ret ?_
        refine e_in_ret ?_
        refine e_then_ret ?_
        exact r_ret1 S rfl rfl ⟨_, rfl, fun h => (by cases h), H.below⟩
      · skip
        have c10 := bc10
        have c10 := of_decide_eq_false c10
        refine wp_skip ?_
        refine e_in 1 ?_
        refine e_then ?_
        refine c_region ?_
        refine l_pure S (p_add rfl rfl (nat_add (x := i) (y := 1) (by omega))) rfl rfl rfl ?_; clear S a; intro a S
        refine l_pure S (p_move rfl) rfl rfl rfl ?_; clear S a; intro a S
        refine l_nil ?_
        refine e_then ?_
        exact ⟨(i + 1), ⟨S.only ⟨rfl, rfl, rfl, rfl, trivial⟩, H, ⟨by omega, by omega, fun j hj => by rcases Nat.lt_or_ge j i with h | h; exact hok j h; obtain rfl : j = i := (by omega); omega⟩⟩, (show l.length - (i + 1) < l.length - i by omega)⟩
  · skip
    have c3 := bc3
    have c3 := of_decide_eq_false c3
    refine wp_exit ?_
    refine e_then_exit ?_
    refine e_then_exit ?_
    refine e_in_exit ?_
    refine e_then ?_
    refine wp_seq ?_
    refine c_region ?_
    refine l_pure S (p_move rfl) rfl rfl rfl ?_; clear S a; intro a S
    refine l_pure S (p_lens Tryd.underlying9 rfl) rfl rfl rfl ?_; clear S a; intro a S
    refine l_pure S (p_leq rfl rfl) rfl rfl rfl ?_; clear S a; intro a S
    refine l_pure S (p_move rfl) rfl rfl rfl ?_; clear S a; intro a S
    refine l_split (S.of 25 rfl) (fun bc13 => ?_) (fun bc13 => ?_)
    · skip
      have c13 := bc13
      have c13 := of_decide_eq_true c13
      refine l_on S rfl rfl rfl rfl bc13 ?_
      refine l_pure S (p_move rfl) rfl rfl rfl ?_; clear S a; intro a S
      refine l_on S rfl rfl rfl rfl bc13 ?_
      refine l_call S rfl rfl Tryd.func31 rfl rfl (asc_ _ nm (by omega)) rfl rfl rfl ?_
      rintro e w ⟨ba, rfl, hba, hb⟩
      refine ⟨_, rfl, ?_⟩; clear S a; intro a S
      replace H := H.later hb; clear hb
      refine l_pure S (p_pick_t rfl bc13 rfl) rfl rfl rfl ?_; clear S a; intro a S
      refine l_pure S (p_assign rfl) rfl rfl rfl ?_; clear S a; intro a S
      refine l_nil ?_
      refine e_then ?_
      refine wp_ret ?_
      exact r_ret1 S rfl rfl ⟨ba, rfl, fun h => ⟨by omega, by omega, fun s hs => (by obtain ⟨j, hj⟩ := List.getElem?_of_mem hs; have hlt := (List.getElem?_eq_some_iff.1 hj).1; have := hok j (by omega); rw [List.getD_eq_getElem?_getD, hj] at this; exact this), hba h⟩, H.below⟩
    · skip
      have c13 := bc13
      have c13 := of_decide_eq_false c13
      refine l_off S rfl rfl rfl rfl bc13 rfl rfl ?_; clear S a; intro a S
      refine l_off S rfl rfl rfl rfl bc13 rfl rfl ?_; clear S a; intro a S
      refine l_pure S (p_pick_f rfl bc13 rfl) rfl rfl rfl ?_; clear S a; intro a S
      refine l_pure S (p_assign rfl) rfl rfl rfl ?_; clear S a; intro a S
      refine l_nil ?_
      refine e_then ?_
      refine wp_ret ?_
      exact r_ret1 S rfl rfl ⟨_, rfl, fun h => (by cases h), H.below⟩
theorem law_ (w0 : World) (nm : ByteArray) (A : Option Addr) (c : Nat) (l : List ByteArray) (hC : Kd.string.C w0 A l.length l) (hlc : l.length ≤ c) (hT0 : li.Tabs w0) : Calls Tryd.prog 5 #[.string nm, .slice A l.length c] w0 fun e w' => e = .returned (.bool true) ∧ Below w0.heap.size w0 w' := by
  have H := HH.start w0
  have hl := hC.2.1
  have hT := tabs_later hT0
  refine c_enter (args := [.string nm, .slice A l.length c]) (k := 31) Tryd.func5 rfl rfl rfl (fun a S => ?_)
  refine wp_seq ?_
  refine c_region ?_
  refine l_pure S (p_assign rfl) rfl rfl rfl ?_; clear S a; intro a S
  refine l_nil ?_
  refine e_then ?_
  refine wp_seq ?_
  refine wp_seq ?_
  refine c_region ?_
  refine l_pure S (p_move rfl) rfl rfl rfl ?_; clear S a; intro a S
  refine l_pure S (p_lens Tryd.underlying9 rfl) rfl rfl rfl ?_; clear S a; intro a S
  refine l_pure S (p_gtr rfl rfl) rfl rfl rfl ?_; clear S a; intro a S
  refine l_pure S (p_move rfl) rfl rfl rfl ?_; clear S a; intro a S
  refine l_split (S.of 10 rfl) (fun bc3 => ?_) (fun bc3 => ?_)
  · skip
    have c3 := bc3
    have c3 := of_decide_eq_true c3
    refine l_off S rfl rfl rfl rfl bc3 rfl rfl ?_; clear S a; intro a S
    refine l_off S rfl rfl rfl rfl bc3 rfl rfl ?_; clear S a; intro a S
    refine l_off S rfl rfl rfl rfl bc3 rfl rfl ?_; clear S a; intro a S
    refine l_pure S (p_pick_t rfl bc3 rfl) rfl rfl rfl ?_; clear S a; intro a S
    refine l_nil ?_
    refine e_then ?_
    refine c_cond (b := true) S rfl (fun _ => ?_) (fun h => by cases h)
    refine wp_seq ?_
    refine c_region ?_
    refine l_pure S (p_assign rfl) rfl rfl rfl ?_; clear S a; intro a S
    refine l_nil ?_
    refine e_then ?_
    refine wp_ret ?_
    refine e_then_ret ?_
    first | exact r_ret1 S rfl rfl ⟨rfl, H.below⟩ | exact r_ret1 S rfl rfl ⟨by rw [beq_self_eq_true], H.below⟩ | exact r_ret1 S rfl rfl ⟨by simp, H.below⟩
  · skip
    have c3 := bc3
    have c3 := of_decide_eq_false c3
    refine l_on S rfl rfl rfl rfl bc3 ?_
    refine l_pure S (p_move rfl) rfl rfl rfl ?_; clear S a; intro a S
    refine l_on S rfl rfl rfl rfl bc3 ?_
    refine l_call S rfl rfl Tryd.func12 rfl rfl (fits_ _ A c l (C_old hC H) hl) rfl rfl rfl ?_
    rintro e w ⟨bf, rfl, hb⟩
    refine ⟨_, rfl, ?_⟩; clear S a; intro a S
    replace H := H.later hb; clear hb
    refine l_on S rfl rfl rfl rfl bc3 ?_
    refine l_pure S (p_not rfl) rfl rfl rfl ?_; clear S a; intro a S
    refine l_pure S (p_pick_f rfl bc3 rfl) rfl rfl rfl ?_; clear S a; intro a S
    refine l_nil ?_
    refine e_then ?_
    refine c_cond S rfl (fun bc9 => ?_) (fun bc9 => ?_)
    · skip
      have c9 := bc9
      replace c9 := not_eq_true_ c9
      
      refine wp_seq ?_
      refine c_region ?_
      refine l_pure S (p_assign rfl) rfl rfl rfl ?_; clear S a; intro a S
      refine l_nil ?_
      refine e_then ?_
      refine wp_ret ?_
      refine e_then_ret ?_
      first | exact r_ret1 S rfl rfl ⟨rfl, H.below⟩ | exact r_ret1 S rfl rfl ⟨by rw [beq_self_eq_true], H.below⟩ | exact r_ret1 S rfl rfl ⟨by simp, H.below⟩
    · skip
      have c9 := bc9
      replace c9 := not_eq_false_ c9
      
      refine wp_skip ?_
      refine e_then ?_
      refine wp_seq ?_
      refine wp_seq ?_
      refine c_region ?_
      refine l_pure S (p_move rfl) rfl rfl rfl ?_; clear S a; intro a S
      refine l_pure S (p_move rfl) rfl rfl rfl ?_; clear S a; intro a S
      refine l_call S rfl rfl Tryd.func13 rfl rfl (right_ _ nm A c l (C_old hC H) hl) rfl rfl rfl ?_
      rintro e w ⟨br, rfl, hbr, hb⟩
      refine ⟨_, rfl, ?_⟩; clear S a; intro a S
      replace H := H.later hb; clear hb
      refine l_pure S (p_not rfl) rfl rfl rfl ?_; clear S a; intro a S
      refine l_nil ?_
      refine e_then ?_
      refine c_cond S rfl (fun bc13 => ?_) (fun bc13 => ?_)
      · skip
        have c13 := bc13
        replace c13 := not_eq_true_ c13
        
        refine wp_seq ?_
        refine c_region ?_
        refine l_pure S (p_assign rfl) rfl rfl rfl ?_; clear S a; intro a S
        refine l_nil ?_
        refine e_then ?_
        refine wp_ret ?_
        refine e_then_ret ?_
        first | exact r_ret1 S rfl rfl ⟨rfl, H.below⟩ | exact r_ret1 S rfl rfl ⟨by rw [beq_self_eq_true], H.below⟩ | exact r_ret1 S rfl rfl ⟨by simp, H.below⟩
      · skip
        have c13 := bc13
        replace c13 := not_eq_false_ c13
        
        obtain ⟨h1, h2, h3, h4⟩ := hbr c13
        have hue : (⟨(Lib.toUpperD nm.data.toList).toArray⟩ : ByteArray) = upS nm := by rw [toUpperD_asc h4]; exact upper_eq h4
        refine wp_skip ?_
        refine e_then ?_
        refine wp_seq ?_
        refine c_region ?_
        refine l_pure S (p_move rfl) rfl rfl rfl ?_; clear S a; intro a S
        refine l_pure S (p_move rfl) rfl rfl rfl ?_; clear S a; intro a S
        have hcon := sg.impl_ _ nm (by omega) (by rw [hue]; unfold upS; rw [strOfNums_size, List.length_map, ints_len]; omega) A c l (C_old hC H) hlc (by omega) (fun s hs => by have := h3 s hs; omega) (fun w hb => hT w (H.later hb).below)
        rw [hue] at hcon
        refine l_call S rfl rfl Tryd.func14 rfl rfl (hcon) rfl rfl rfl ?_
        rintro e w ⟨rfl, hb⟩
        refine ⟨_, rfl, ?_⟩; clear S a; intro a S
        replace H := H.later hb; clear hb hcon
        refine l_pure S (p_move rfl) rfl rfl rfl ?_; clear S a; intro a S
        refine l_pure S (p_extract rfl rfl) rfl rfl rfl ?_; clear S a; intro a S
        refine l_pure S (p_extract rfl rfl) rfl rfl rfl ?_; clear S a; intro a S
        refine l_pure S (p_assign rfl) rfl rfl rfl ?_; clear S a; intro a S
        refine l_pure S (p_assign rfl) rfl rfl rfl ?_; clear S a; intro a S
        refine l_nil ?_
        refine e_then ?_
        refine wp_seq ?_
        refine c_region ?_
        refine l_pure S (p_move rfl) rfl rfl rfl ?_; clear S a; intro a S
        refine l_pure S (p_move rfl) rfl rfl rfl ?_; clear S a; intro a S
        refine l_on S rfl rfl rfl rfl rfl ?_
        refine l_pure S (p_move rfl) rfl rfl rfl ?_; clear S a; intro a S
        refine l_on S rfl rfl rfl rfl rfl ?_
        refine l_pure S (p_move rfl) rfl rfl rfl ?_; clear S a; intro a S
        refine l_on S rfl rfl rfl rfl rfl ?_
        refine l_pure S (p_move rfl) rfl rfl rfl ?_; clear S a; intro a S
        refine l_on S rfl rfl rfl rfl rfl ?_
        refine l_call S rfl rfl Tryd.func15 rfl rfl (spec_ _ nm (by omega) A c l (C_old hC H) (by omega) (fun s hs => by have := h3 s hs; omega)) rfl rfl rfl ?_
        rintro e w ⟨rfl, hb⟩
        refine ⟨_, rfl, ?_⟩; clear S a; intro a S
        replace H := H.later hb; clear hb
        refine l_on S rfl rfl rfl rfl rfl ?_
        refine l_pure S (p_seql rfl rfl) rfl rfl rfl ?_; clear S a; intro a S
        refine l_pure S (p_pick_t rfl rfl rfl) rfl rfl rfl ?_; clear S a; intro a S
        refine l_pure S (p_assign rfl) rfl rfl rfl ?_; clear S a; intro a S
        refine l_nil ?_
        refine e_then ?_
        refine wp_ret ?_
        first | exact r_ret1 S rfl rfl ⟨rfl, H.below⟩ | exact r_ret1 S rfl rfl ⟨by rw [beq_self_eq_true], H.below⟩ | exact r_ret1 S rfl rfl ⟨by simp, H.below⟩
end lw
end Go.Proofs.YtnmelglnkefjfaaDoor.ct
