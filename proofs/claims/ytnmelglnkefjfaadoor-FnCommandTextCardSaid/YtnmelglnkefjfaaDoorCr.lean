/- FnCommandText: the reference, walked. -/
import Derived.Test.YtnmelglnkefjfaaDoorProg
import Derived.Test.YtnmelglnkefjfaaDoorCm
namespace Go.Proofs.YtnmelglnkefjfaaDoor.ct
open Go.RowKit Go.Proofs.HHW Go.Proofs.YtnmelglnkefjfaaDoorW.PrintWords Go.Proofs.YtnmelglnkefjfaaDoor.cm
set_option linter.unusedVariables false
set_option linter.unusedSimpArgs false
namespace rf
theorem ag5 : aggB Tryd.prog 5 = some false := by kernel_rfl
theorem sz5 : szB Tryd.prog 5 = some 1 := by kernel_rfl
theorem in5 : (Tryd.prog.info? 5).map (fun i => (i.zero, i.size, i.bytes)) = some (some (.int .u8 0), 1, 1) := by kernel_rfl


theorem getD_mem {l : List Int} {i : Nat} (h : i < l.length) : l.getD i 0 ∈ l := by
  rw [List.getD_eq_getElem?_getD, List.getElem?_eq_getElem h]
  exact List.getElem_mem h
theorem hex_step {n k i : Nat} {cs : Array Value} (hi : i < k) (hcs : cs.size = k) (h : ∀ (j : Nat) (x : Int), k ≤ j + i → (hexl k n)[j]? = some x → cs[j]? = some (.int .u8 x)) : ∀ (j : Nat) (x : Int), k ≤ j + (i + 1) → (hexl k n)[j]? = some x → (cs.setIfInBounds (k - 1 - i) (.int .u8 (hx (n / 16 ^ i % 16))))[j]? = some (.int .u8 x) := by
  intro j x hj hx'
  rw [Array.getElem?_setIfInBounds]
  by_cases e : k - 1 - i = j
  · subst e
    rw [if_pos rfl, if_pos (by omega)]
    rw [hexl_get (by omega), show k - 1 - (k - 1 - i) = i by omega] at hx'
    injection hx' with hx'
    rw [hx']
  · rw [if_neg e]
    exact h j x (by omega) hx'
theorem r_str' {P : Program} {F : List (Nat × Value)} {B : Nat} {w0 : World} {L : List (Nat × Obj)} {t t' e : TypeId} {x : Operand} {A : Option Addr} {n c : Nat} {l : List Int} (hx : ev F x = some (.slice A n c)) (hn : l.length = n) (hs : P.underlying t = some (.slice e)) (he : P.underlying e = some (.int .u8)) (hd : P.underlying t' = some .string) (h : ∀ w, HH B w0 w L → (Kd.int .u8).C w A l.length l) : Reads P F B w0 L (.convert t t' x) (.string (strOfNums l)) := by
  subst hn
  exact r_str hx hs he hd h
theorem upper_ (w0 : World) (s : ByteArray) (hs : s.size ≤ 1000000) : Calls Tryd.prog 35 #[.string s] w0 fun e w' => e = .returned (.string (upS s)) ∧ Below w0.heap.size w0 w' := by
  have H := HH.start w0
  refine c_enter (args := [.string s]) (k := 29) Tryd.func35 rfl rfl rfl (fun a S => ?_)
  refine wp_seq ?_
  refine c_region ?_
  refine l_pure S (p_assign rfl) rfl rfl rfl ?_; clear S a; intro a S
  refine l_nil ?_
  refine e_then ?_
  refine wp_seq ?_
  refine c_region ?_
  refine l_pure S (p_move rfl) rfl rfl rfl ?_; clear S a; intro a S
  refine l_bytesR (s := s) S H rfl rfl Tryd.underlying9 Tryd.underlying55 Tryd.underlying5 rfl rfl rfl ?_; clear S a H; intro gb c cs0 ff w a hcs0 hsc hth0 hrow0 H S
  refine l_pure S (p_assign rfl) rfl rfl rfl ?_; clear S a; intro a S
  refine l_nil ?_
  refine e_then ?_
  refine wp_seq ?_
  refine wp_seq ?_
  refine c_region ?_
  refine l_pure S (p_move rfl) rfl rfl rfl ?_; clear S a; intro a S
  refine l_pure S (p_len Tryd.underlying55 rfl) rfl rfl rfl ?_; clear S a; intro a S
  refine l_pure S (p_move rfl) rfl rfl rfl ?_; clear S a; intro a S
  refine l_nil ?_
  refine e_then ?_
  refine wp_block ?_
  have hil := ints_len s
  refine c_loop (σ := Nat × Array Value) (fun s_ a w => match s_ with | ⟨i, cs⟩ => SL a 30 [] [(0, .string s), (3, .slice (some ⟨gb, 0, none⟩) s.size c), (8, .slice (some ⟨gb, 0, none⟩) s.size c), (9, .int .i64 (s.size : Int)), (10, .int .i64 (i : Int))] ∧ HH (w0.heap.size) w0 w [(gb, .cells cs 5 ff)] ∧ (i ≤ s.size ∧ cs.size = c ∧ Thaw cs ff ∧ ∀ (j : Nat) (x : Int), (mzl upc (ints s) i)[j]? = some x → cs[j]? = some (.int .u8 x))) (fun s_ => match s_ with | ⟨i, cs⟩ => s.size - i) ⟨0, cs0⟩ ⟨S.only ⟨rfl, rfl, rfl, rfl, rfl, trivial⟩, H, ⟨Nat.zero_le _, hcs0, hth0, by rw [mzl_zero]; exact hrow0⟩⟩ ?_
  clear S a H; rintro ⟨i, cs⟩ a w ⟨S, H, hinv⟩
  obtain ⟨hi, hcs, hth, hrow⟩ := hinv
  refine wp_seq ?_
  refine c_region ?_
  refine l_pure S (p_lss rfl rfl) rfl rfl rfl ?_; clear S a; intro a S
  refine l_nil ?_
  refine e_then ?_
  refine wp_seq ?_
  refine c_cond S rfl (fun bc2 => ?_) (fun bc2 => ?_)
  · skip
    have c2 := bc2
    have c2 := of_decide_eq_true c2
    refine wp_skip ?_
    refine e_then ?_
    refine wp_seq ?_
    refine wp_block ?_
    refine wp_seq ?_
    refine c_region ?_
    refine l_pure S (p_move rfl) rfl rfl rfl ?_; clear S a; intro a S
    refine l_pure S (p_indexAddr rfl rfl (fun w => ia_slice Tryd.underlying55 sz5 (by omega) (by omega))) rfl rfl rfl ?_; clear S a; intro a S
    rw [show 0 + ((i : Nat) : Int).toNat * 1 = i by omega] at S
    refine l_read S H (r_load rfl List.mem_cons_self (hrow i _ (mzl_get 0 (show i < (ints s).length by omega))) (fun w hc => ld1 ag5 hc)) rfl rfl rfl ?_; clear S a; intro a S
    have hxr := ints_range s ((ints s).getD i 0) (getD_mem (show i < (ints s).length by omega))
    refine l_pure S (p_assign rfl) rfl rfl rfl ?_; clear S a; intro a S
    refine l_pure S (p_assign rfl) rfl rfl rfl ?_; clear S a; intro a S
    refine l_nil ?_
    refine e_then ?_
    refine wp_seq ?_
    refine c_region ?_
    refine l_pure S (p_move rfl) rfl rfl rfl ?_; clear S a; intro a S
    refine l_pure S (p_leq rfl rfl) rfl rfl rfl ?_; clear S a; intro a S
    refine l_pure S (p_move rfl) rfl rfl rfl ?_; clear S a; intro a S
    refine l_split (S.of 17 rfl) (fun bc4 => ?_) (fun bc4 => ?_)
    · skip
      have c4 := bc4
      have c4 := of_decide_eq_true c4
      refine l_on S rfl rfl rfl rfl bc4 ?_
      refine l_pure S (p_move rfl) rfl rfl rfl ?_; clear S a; intro a S
      refine l_on S rfl rfl rfl rfl bc4 ?_
      refine l_pure S (p_leq rfl rfl) rfl rfl rfl ?_; clear S a; intro a S
      refine l_pure S (p_pick_t rfl bc4 rfl) rfl rfl rfl ?_; clear S a; intro a S
      refine l_nil ?_
      refine e_then ?_
      refine c_cond S rfl (fun bc6 => ?_) (fun bc6 => ?_)
      · skip
        have c6 := bc6
        have c6 := of_decide_eq_true c6
        refine c_region ?_
        refine l_pure S (p_move rfl) rfl rfl rfl ?_; clear S a; intro a S
        refine l_pure S (p_move rfl) rfl rfl rfl ?_; clear S a; intro a S
        refine l_pure S (p_move rfl) rfl rfl rfl ?_; clear S a; intro a S
        refine l_pure S (p_sub (r := ((ints s).getD i 0) - 97) rfl rfl (by rw [IntKind.wrap_u8]; omega)) rfl rfl rfl ?_; clear S a; intro a S
        refine l_pure S (p_add (r := ((ints s).getD i 0) - 97 + 65) rfl rfl (by rw [IntKind.wrap_u8]; omega)) rfl rfl rfl ?_; clear S a; intro a S
        refine l_pure S (p_indexAddr rfl rfl (fun w => ia_slice Tryd.underlying55 sz5 (by omega) (by omega))) rfl rfl rfl ?_; clear S a; intro a S
        rw [show 0 + ((i : Nat) : Int).toNat * 1 = i by omega] at S
        refine l_storeT S H rfl rfl rfl hth .here (by omega) (fun w u hc hz => st1 sz5 rfl hc hz) rfl rfl ?_; clear S a H; intro w a H S
        have hNT := Thaw.set (j := i) (v := .int .u8 (((ints s).getD i 0) - 97 + 65)) hth
        have hNC : (cs.setIfInBounds i (.int .u8 (((ints s).getD i 0) - 97 + 65))).size = c := by rw [Array.size_setIfInBounds]; exact hcs
        have hNEXT := mzl_step (f := upc) (enc := Value.int .u8) (v := .int .u8 (((ints s).getD i 0) - 97 + 65)) 0 (show i < (ints s).length by omega) (by omega) (by unfold upc; rw [if_pos (by omega)]; congr 1; omega) hrow
        refine l_nil ?_
        refine e_in 1 ?_
        refine e_then ?_
        refine c_region ?_
        refine l_pure S (p_add rfl rfl (nat_add (x := i) (y := 1) (by omega))) rfl rfl rfl ?_; clear S a; intro a S
        refine l_pure S (p_move rfl) rfl rfl rfl ?_; clear S a; intro a S
        refine l_nil ?_
        refine e_then ?_
        exact ⟨⟨i + 1, cs.setIfInBounds i _⟩, ⟨S.only ⟨rfl, rfl, rfl, rfl, rfl, trivial⟩, H, ⟨by omega, hNC, hNT, hNEXT⟩⟩, (show s.size - (i + 1) < s.size - i by omega)⟩
      · skip
        have c6 := bc6
        have c6 := of_decide_eq_false c6
        refine wp_skip ?_
        refine e_in 1 ?_
        refine e_then ?_
        refine c_region ?_
        have hNT := hth
        have hNC := hcs
        have hNEXT : ∀ (j : Nat) (x : Int), (mzl upc (ints s) (i + 1))[j]? = some x → cs[j]? = some (.int .u8 x) := by rw [mzl_same 0 (by omega) (by unfold upc; rw [if_neg (by omega)])]; exact hrow
        refine l_pure S (p_add rfl rfl (nat_add (x := i) (y := 1) (by omega))) rfl rfl rfl ?_; clear S a; intro a S
        refine l_pure S (p_move rfl) rfl rfl rfl ?_; clear S a; intro a S
        refine l_nil ?_
        refine e_then ?_
        exact ⟨⟨i + 1, cs⟩, ⟨S.only ⟨rfl, rfl, rfl, rfl, rfl, trivial⟩, H, ⟨by omega, hNC, hNT, hNEXT⟩⟩, (show s.size - (i + 1) < s.size - i by omega)⟩
    · skip
      have c4 := bc4
      have c4 := of_decide_eq_false c4
      refine l_off S rfl rfl rfl rfl bc4 rfl rfl ?_; clear S a; intro a S
      refine l_off S rfl rfl rfl rfl bc4 rfl rfl ?_; clear S a; intro a S
      refine l_pure S (p_pick_f rfl bc4 rfl) rfl rfl rfl ?_; clear S a; intro a S
      refine l_nil ?_
      refine e_then ?_
      refine c_cond (b := false) S rfl (fun h => by cases h) (fun _ => ?_)
      refine wp_skip ?_
      refine e_in 1 ?_
      refine e_then ?_
      refine c_region ?_
      have hNT := hth
      have hNC := hcs
      have hNEXT : ∀ (j : Nat) (x : Int), (mzl upc (ints s) (i + 1))[j]? = some x → cs[j]? = some (.int .u8 x) := by rw [mzl_same 0 (by omega) (by unfold upc; rw [if_neg (by omega)])]; exact hrow
      refine l_pure S (p_add rfl rfl (nat_add (x := i) (y := 1) (by omega))) rfl rfl rfl ?_; clear S a; intro a S
      refine l_pure S (p_move rfl) rfl rfl rfl ?_; clear S a; intro a S
      refine l_nil ?_
      refine e_then ?_
      exact ⟨⟨i + 1, cs⟩, ⟨S.only ⟨rfl, rfl, rfl, rfl, rfl, trivial⟩, H, ⟨by omega, hNC, hNT, hNEXT⟩⟩, (show s.size - (i + 1) < s.size - i by omega)⟩
  · skip
    have c2 := bc2
    have c2 := of_decide_eq_false c2
    refine wp_exit ?_
    refine e_then_exit ?_
    refine e_then_exit ?_
    refine e_in_exit ?_
    refine e_then ?_
    refine wp_seq ?_
    refine c_region ?_
    refine l_pure S (p_move rfl) rfl rfl rfl ?_; clear S a; intro a S
    rw [mzl_all (by omega)] at hrow
    have hml : ((ints s).map upc).length = s.size := by rw [List.length_map, ints_len]
    rw [← hml] at S
    refine l_read S H (r_str (l := (ints s).map upc) rfl Tryd.underlying55 Tryd.underlying5 Tryd.underlying9 (fun w H => RB.C (RB.of H List.mem_cons_self hrow) (by omega))) rfl rfl rfl ?_; clear S a; intro a S
    refine l_pure S (p_assign rfl) rfl rfl rfl ?_; clear S a; intro a S
    refine l_nil ?_
    refine e_then ?_
    refine wp_ret ?_
    exact r_ret1 S rfl rfl ⟨rfl, H.below⟩
theorem hex_ (w0 : World) (n k : Nat) (hk : k ≤ 8) : Calls Tryd.prog 51 #[.int .u32 (n : Int), .int .i64 (k : Int)] w0 fun e w' => e = .returned (.string (strOfNums (hexl k n))) ∧ Below w0.heap.size w0 w' := by
  have H := HH.start w0
  refine c_enter (args := [.int .u32 (n : Int), .int .i64 (k : Int)]) (k := 27) Tryd.func51 rfl rfl rfl (fun a S => ?_)
  refine wp_seq ?_
  refine c_region ?_
  refine l_pure S (p_assign rfl) rfl rfl rfl ?_; clear S a; intro a S
  refine l_nil ?_
  refine e_then ?_
  refine wp_seq ?_
  refine c_region ?_
  refine l_pure S (p_move rfl) rfl rfl rfl ?_; clear S a; intro a S
  refine l_make (l := k) (c := k) S H rfl rfl rfl Tryd.underlying55 in5 (by omega) (by omega) (by omega) rfl rfl rfl ?_; clear S a H; intro gb cs0 w a hcs0 H S
  refine l_pure S (p_assign rfl) rfl rfl rfl ?_; clear S a; intro a S
  refine l_nil ?_
  refine e_then ?_
  refine wp_seq ?_
  refine wp_seq ?_
  refine c_region ?_
  refine l_pure S (p_move rfl) rfl rfl rfl ?_; clear S a; intro a S
  refine l_pure S (p_len Tryd.underlying55 rfl) rfl rfl rfl ?_; clear S a; intro a S
  refine l_pure S (p_move rfl) rfl rfl rfl ?_; clear S a; intro a S
  refine l_nil ?_
  refine e_then ?_
  refine wp_block ?_
  have hhl := hexl_len k n
  refine c_loop (σ := Nat × Array Value) (fun s_ a w => match s_ with | ⟨i, cs⟩ => SL a 29 [] [(0, .int .u32 (n : Int)), (1, .int .i64 (k : Int)), (5, .slice (some ⟨gb, 0, none⟩) k k), (10, .int .i64 (k : Int)), (11, .int .i64 (i : Int))] ∧ HH (w0.heap.size) w0 w [(gb, .cells cs 5 (0, 0))] ∧ (i ≤ k ∧ cs.size = k ∧ ∀ (j : Nat) (x : Int), k ≤ j + i → (hexl k n)[j]? = some x → cs[j]? = some (.int .u8 x))) (fun s_ => match s_ with | ⟨i, cs⟩ => k - i) ⟨0, cs0⟩ ⟨S.only ⟨rfl, rfl, rfl, rfl, rfl, trivial⟩, H, ⟨Nat.zero_le _, hcs0, fun j x hj hx => by have := (List.getElem?_eq_some_iff.1 hx).1; omega⟩⟩ ?_
  clear S a H; rintro ⟨i, cs⟩ a w ⟨S, H, hinv⟩
  obtain ⟨hi, hcs, hrow⟩ := hinv
  refine wp_seq ?_
  refine c_region ?_
  refine l_pure S (p_lss rfl rfl) rfl rfl rfl ?_; clear S a; intro a S
  refine l_nil ?_
  refine e_then ?_
  refine wp_seq ?_
  refine c_cond S rfl (fun bc2 => ?_) (fun bc2 => ?_)
  · skip
    have c2 := bc2
    have c2 := of_decide_eq_true c2
    refine wp_skip ?_
    refine e_then ?_
    refine wp_seq ?_
    refine wp_block ?_
    refine wp_seq ?_
    refine c_region ?_
    refine l_pure S (p_move rfl) rfl rfl rfl ?_; clear S a; intro a S
    refine l_pure S (p_assign rfl) rfl rfl rfl ?_; clear S a; intro a S
    refine l_nil ?_
    refine e_then ?_
    refine c_region ?_
    refine l_pure S (p_move rfl) rfl rfl rfl ?_; clear S a; intro a S
    refine l_pure S (p_move rfl) rfl rfl rfl ?_; clear S a; intro a S
    refine l_pure S (p_sub rfl rfl (nat_sub (x := k) (y := 1) (by omega) (by omega))) rfl rfl rfl ?_; clear S a; intro a S
    refine l_pure S (p_move rfl) rfl rfl rfl ?_; clear S a; intro a S
    refine l_pure S (p_sub rfl rfl (nat_sub (x := (k - 1)) (y := i) (by omega) (by omega))) rfl rfl rfl ?_; clear S a; intro a S
    refine l_pure S (p_move rfl) rfl rfl rfl ?_; clear S a; intro a S
    refine l_pure S (p_move rfl) rfl rfl rfl ?_; clear S a; intro a S
    refine l_pure S (p_mul rfl rfl (nat_mul (x := 4) (y := i) (by omega))) rfl rfl rfl ?_; clear S a; intro a S
    refine l_pure S (p_shr (r := ((n / 16 ^ i : Nat) : Int)) rfl rfl (by omega) (shr_4j (by show _ ≤ 32; omega))) rfl rfl rfl ?_; clear S a; intro a S
    refine l_pure S (p_and (r := ((n / 16 ^ i % 16 : Nat) : Int)) rfl rfl (and15_u32 _)) rfl rfl rfl ?_; clear S a; intro a S
    refine l_pure S (p_index rfl rfl (fun w => ix_string Tryd.underlying9 (by omega) (show _ < ((16 : Nat) : Int) by have := Nat.mod_lt (n / 16 ^ i) (show 0 < 16 by decide); omega))) rfl rfl rfl ?_; clear S a; intro a S
    rw [hxb (x := n / 16 ^ i % 16) (Nat.mod_lt _ (by decide))] at S
    refine l_pure S (p_indexAddr rfl rfl (fun w => ia_slice Tryd.underlying55 sz5 (by omega) (by omega))) rfl rfl rfl ?_; clear S a; intro a S
    rw [show 0 + ((k - 1 - i : Nat) : Int).toNat * 1 = k - 1 - i by omega] at S
    refine l_store S H rfl rfl rfl .here (by omega) (fun w u hc hz => st1 sz5 rfl hc hz) rfl rfl ?_; clear S a H; intro w a H S
    refine l_nil ?_
    refine e_in 1 ?_
    refine e_then ?_
    refine c_region ?_
    refine l_pure S (p_add rfl rfl (nat_add (x := i) (y := 1) (by omega))) rfl rfl rfl ?_; clear S a; intro a S
    refine l_pure S (p_move rfl) rfl rfl rfl ?_; clear S a; intro a S
    refine l_nil ?_
    refine e_then ?_
    exact ⟨⟨i + 1, cs.setIfInBounds (k - 1 - i) (.int .u8 (hx (n / 16 ^ i % 16)))⟩, ⟨S.only ⟨rfl, rfl, rfl, rfl, rfl, trivial⟩, H, ⟨by omega, by rw [Array.size_setIfInBounds]; exact hcs, hex_step (by omega) hcs hrow⟩⟩, (show k - (i + 1) < k - i by omega)⟩
  · skip
    have c2 := bc2
    have c2 := of_decide_eq_false c2
    refine wp_exit ?_
    refine e_then_exit ?_
    refine e_then_exit ?_
    refine e_in_exit ?_
    refine e_then ?_
    refine wp_seq ?_
    refine c_region ?_
    refine l_pure S (p_move rfl) rfl rfl rfl ?_; clear S a; intro a S
    have hik : i = k := by omega
    have hrow' : ∀ (j : Nat) (x : Int), (hexl k n)[j]? = some x → cs[j]? = some (.int .u8 x) := fun j x hx => hrow j x (by omega) hx
    refine l_read S H (r_str' (l := (hexl k n)) rfl hhl Tryd.underlying55 Tryd.underlying5 Tryd.underlying9 (fun w H => RB.C (RB.of H List.mem_cons_self hrow') (by omega))) rfl rfl rfl ?_; clear S a; intro a S
    refine l_pure S (p_assign rfl) rfl rfl rfl ?_; clear S a; intro a S
    refine l_nil ?_
    refine e_then ?_
    refine wp_ret ?_
    exact r_ret1 S rfl rfl ⟨rfl, H.below⟩
set_option maxHeartbeats 1000000 in
theorem quoted_ (w0 : World) (s : ByteArray) (hs : s.size ≤ 1000) : Calls Tryd.prog 34 #[.string s] w0 fun e w' => e = .returned (.string (strOfNums (quo s))) ∧ Below w0.heap.size w0 w' := by
  have H := HH.start w0
  refine c_enter (args := [.string s]) (k := 96) Tryd.func34 rfl rfl rfl (fun a S => ?_)
  refine wp_seq ?_
  refine c_region ?_
  refine l_pure S (p_assign rfl) rfl rfl rfl ?_; clear S a; intro a S
  refine l_nil ?_
  refine e_then ?_
  refine wp_seq ?_
  refine c_region ?_
  refine l_pure S (p_assign rfl) rfl rfl rfl ?_; clear S a; intro a S
  refine l_nil ?_
  refine e_then ?_
  refine wp_seq ?_
  refine wp_seq ?_
  refine c_region ?_
  refine l_pure S (p_move rfl) rfl rfl rfl ?_; clear S a; intro a S
  refine l_rangeS S H rfl rfl Tryd.underlying9 rfl rfl rfl ?_; clear S a H; intro it w a H S
  refine l_nil ?_
  refine e_then ?_
  refine wp_block ?_
  refine c_loop (σ := Nat × List Int) (fun s_ a w => match s_ with | ⟨p, dn⟩ => SL a 97 [] [(0, .string s), (3, .string (strOfNums ([34] ++ dn))), (7, .pointer (some ⟨it, 0, none⟩))] ∧ HH (w0.heap.size) w0 w [(it, .stringIter s p)] ∧ (p ≤ s.size ∧ dn ++ qt s p = qt s 0)) (fun s_ => match s_ with | ⟨p, dn⟩ => s.size - p) ⟨0, []⟩ ⟨S.only ⟨rfl, rfl, rfl, trivial⟩, H, ⟨Nat.zero_le _, rfl⟩⟩ ?_
  clear S a H; rintro ⟨p, dn⟩ a w ⟨S, H, hinv⟩
  obtain ⟨hp, hdn⟩ := hinv
  have hql := qt_len s 0
  have hdl : dn.length ≤ (qt s 0).length := by rw [← hdn]; simp
  refine wp_seq ?_
  refine c_region ?_
  rcases Nat.lt_or_ge p s.size with hlt | hlt
  · skip
    have hwp := Lib.width_pos s p
    have hwl := dec_le hlt
    have hrv := dec_valid s p
    refine l_nextG S H rfl rfl hlt rfl rfl rfl ?_; clear S a H; intro w a H S
    obtain ⟨R, hR⟩ : ∃ R, (Utf8.decode s p).1 = R := ⟨_, rfl⟩
    rw [hR] at S hrv
    have hbl : (s.get! p).toNat < 256 := (s.get! p).toNat_lt
    refine l_pure S (p_extract rfl rfl) rfl rfl rfl ?_; clear S a; intro a S
    refine l_nil ?_
    refine e_then ?_
    refine wp_seq ?_
    refine c_cond (b := true) S rfl (fun _ => ?_) (fun h => by cases h)
    refine wp_skip ?_
    refine e_then ?_
    refine wp_block ?_
    refine wp_seq ?_
    refine c_region ?_
    refine l_pure S (p_extract rfl rfl) rfl rfl rfl ?_; clear S a; intro a S
    refine l_pure S (p_extract rfl rfl) rfl rfl rfl ?_; clear S a; intro a S
    refine l_pure S (p_assign rfl) rfl rfl rfl ?_; clear S a; intro a S
    refine l_pure S (p_assign rfl) rfl rfl rfl ?_; clear S a; intro a S
    refine l_nil ?_
    refine e_then ?_
    refine wp_block ?_
    refine wp_seq ?_
    refine c_region ?_
    refine l_pure S (p_move rfl) rfl rfl rfl ?_; clear S a; intro a S
    refine l_pure S (p_eql rfl rfl) rfl rfl rfl ?_; clear S a; intro a S
    refine l_pure S (p_move rfl) rfl rfl rfl ?_; clear S a; intro a S
    refine l_split (S.of 21 rfl) (fun bc4 => ?_) (fun bc4 => ?_)
    · skip
      have c4 := bc4
      have c4 := eq_of_beq c4
      refine l_off S rfl rfl rfl rfl bc4 rfl rfl ?_; clear S a; intro a S
      refine l_off S rfl rfl rfl rfl bc4 rfl rfl ?_; clear S a; intro a S
      refine l_pure S (p_pick_t rfl bc4 rfl) rfl rfl rfl ?_; clear S a; intro a S
      refine l_pure S (p_assign rfl) rfl rfl rfl ?_; clear S a; intro a S
      refine l_nil ?_
      refine e_then ?_
      refine c_cond (b := true) S rfl (fun _ => ?_) (fun h => by cases h)
      refine c_region ?_
      refine l_pure S (p_move rfl) rfl rfl rfl ?_; clear S a; intro a S
      refine l_pure S (p_move rfl) rfl rfl rfl ?_; clear S a; intro a S
      refine l_pure S (p_conv rfl (fun w => cv_rune (r := R) Tryd.underlying21 Tryd.underlying9 (by omega))) rfl rfl rfl ?_; clear S a; intro a S
      refine l_pure S (p_saddL ([92]) ([(R : Int)]) rfl rfl rfl rfl (by simp only [List.length_append, List.length_cons, List.length_nil, hexl_len]; omega)) rfl rfl rfl ?_; clear S a; intro a S
      refine l_pure S (p_saddL (([34] ++ dn)) (([92] ++ [(R : Int)])) rfl rfl rfl rfl (by simp only [List.length_append, List.length_cons, List.length_nil, hexl_len]; omega)) rfl rfl rfl ?_; clear S a; intro a S
      have hq : qr s p = ([92] ++ [(R : Int)]) := by rw [qr_esc hR (by omega), esc_q (by omega)]; rfl
      rw [← hq, List.append_assoc [34] dn (qr s p)] at S
      refine l_pure S (p_assign rfl) rfl rfl rfl ?_; clear S a; intro a S
      refine l_nil ?_
      refine e_in 2 ?_
      refine e_in 1 ?_
      refine e_then ?_
      exact ⟨⟨p + (Utf8.decode s p).2, dn ++ qr s p⟩, ⟨S.only ⟨rfl, rfl, rfl, trivial⟩, H, ⟨by omega, by rw [List.append_assoc, ← qt_step hlt]; exact hdn⟩⟩, (show s.size - (p + (Utf8.decode s p).2) < s.size - p by omega)⟩
    · skip
      have c4 := bc4
      have c4 := ne_of_beq_false c4
      refine l_on S rfl rfl rfl rfl bc4 ?_
      refine l_pure S (p_move rfl) rfl rfl rfl ?_; clear S a; intro a S
      refine l_on S rfl rfl rfl rfl bc4 ?_
      refine l_pure S (p_eql rfl rfl) rfl rfl rfl ?_; clear S a; intro a S
      refine l_pure S (p_pick_f rfl bc4 rfl) rfl rfl rfl ?_; clear S a; intro a S
      refine l_pure S (p_assign rfl) rfl rfl rfl ?_; clear S a; intro a S
      refine l_nil ?_
      refine e_then ?_
      refine c_cond S rfl (fun bc8 => ?_) (fun bc8 => ?_)
      · skip
        have c8 := bc8
        have c8 := eq_of_beq c8
        refine c_region ?_
        refine l_pure S (p_move rfl) rfl rfl rfl ?_; clear S a; intro a S
        refine l_pure S (p_move rfl) rfl rfl rfl ?_; clear S a; intro a S
        refine l_pure S (p_conv rfl (fun w => cv_rune (r := R) Tryd.underlying21 Tryd.underlying9 (by omega))) rfl rfl rfl ?_; clear S a; intro a S
        refine l_pure S (p_saddL ([92]) ([(R : Int)]) rfl rfl rfl rfl (by simp only [List.length_append, List.length_cons, List.length_nil, hexl_len]; omega)) rfl rfl rfl ?_; clear S a; intro a S
        refine l_pure S (p_saddL (([34] ++ dn)) (([92] ++ [(R : Int)])) rfl rfl rfl rfl (by simp only [List.length_append, List.length_cons, List.length_nil, hexl_len]; omega)) rfl rfl rfl ?_; clear S a; intro a S
        have hq : qr s p = ([92] ++ [(R : Int)]) := by rw [qr_esc hR (by omega), esc_q (by omega)]; rfl
        rw [← hq, List.append_assoc [34] dn (qr s p)] at S
        refine l_pure S (p_assign rfl) rfl rfl rfl ?_; clear S a; intro a S
        refine l_nil ?_
        refine e_in 2 ?_
        refine e_in 1 ?_
        refine e_then ?_
        exact ⟨⟨p + (Utf8.decode s p).2, dn ++ qr s p⟩, ⟨S.only ⟨rfl, rfl, rfl, trivial⟩, H, ⟨by omega, by rw [List.append_assoc, ← qt_step hlt]; exact hdn⟩⟩, (show s.size - (p + (Utf8.decode s p).2) < s.size - p by omega)⟩
      · skip
        have c8 := bc8
        have c8 := ne_of_beq_false c8
        refine wp_seq ?_
        refine c_region ?_
        refine l_pure S (p_move rfl) rfl rfl rfl ?_; clear S a; intro a S
        refine l_pure S (p_geq rfl rfl) rfl rfl rfl ?_; clear S a; intro a S
        refine l_pure S (p_move rfl) rfl rfl rfl ?_; clear S a; intro a S
        refine l_split (S.of 33 rfl) (fun bc10 => ?_) (fun bc10 => ?_)
        · skip
          have c10 := bc10
          have c10 := of_decide_eq_true c10
          refine l_on S rfl rfl rfl rfl bc10 ?_
          refine l_pure S (p_move rfl) rfl rfl rfl ?_; clear S a; intro a S
          refine l_on S rfl rfl rfl rfl bc10 ?_
          refine l_pure S (p_lss rfl rfl) rfl rfl rfl ?_; clear S a; intro a S
          refine l_pure S (p_pick_t rfl bc10 rfl) rfl rfl rfl ?_; clear S a; intro a S
          refine l_pure S (p_assign rfl) rfl rfl rfl ?_; clear S a; intro a S
          refine l_nil ?_
          refine e_then ?_
          refine c_cond S rfl (fun bc12 => ?_) (fun bc12 => ?_)
          · skip
            have c12 := bc12
            have c12 := of_decide_eq_true c12
            refine c_region ?_
            refine l_pure S (p_move rfl) rfl rfl rfl ?_; clear S a; intro a S
            refine l_pure S (p_move rfl) rfl rfl rfl ?_; clear S a; intro a S
            refine l_pure S (p_conv rfl (fun w => cv_rune (r := R) Tryd.underlying21 Tryd.underlying9 (by omega))) rfl rfl rfl ?_; clear S a; intro a S
            refine l_pure S (p_saddL (([34] ++ dn)) ([(R : Int)]) rfl rfl rfl rfl (by simp only [List.length_append, List.length_cons, List.length_nil, hexl_len]; omega)) rfl rfl rfl ?_; clear S a; intro a S
            have hq : qr s p = [(R : Int)] := by rw [qr_esc hR (by omega), esc_p (by omega) (by omega)]
            rw [← hq, List.append_assoc [34] dn (qr s p)] at S
            refine l_pure S (p_assign rfl) rfl rfl rfl ?_; clear S a; intro a S
            refine l_nil ?_
            refine e_in 2 ?_
            refine e_in 1 ?_
            refine e_then ?_
            exact ⟨⟨p + (Utf8.decode s p).2, dn ++ qr s p⟩, ⟨S.only ⟨rfl, rfl, rfl, trivial⟩, H, ⟨by omega, by rw [List.append_assoc, ← qt_step hlt]; exact hdn⟩⟩, (show s.size - (p + (Utf8.decode s p).2) < s.size - p by omega)⟩
          · skip
            have c12 := bc12
            have c12 := of_decide_eq_false c12
            refine wp_seq ?_
            refine c_region ?_
            refine l_pure S (p_move rfl) rfl rfl rfl ?_; clear S a; intro a S
            refine l_pure S (p_geq rfl rfl) rfl rfl rfl ?_; clear S a; intro a S
            refine l_pure S (p_move rfl) rfl rfl rfl ?_; clear S a; intro a S
            refine l_split (S.of 44 rfl) (fun bc14 => ?_) (fun bc14 => ?_)
            · skip
              have c14 := bc14
              have c14 := of_decide_eq_true c14
              refine l_on S rfl rfl rfl rfl bc14 ?_
              refine l_pure S (p_move rfl) rfl rfl rfl ?_; clear S a; intro a S
              refine l_on S rfl rfl rfl rfl bc14 ?_
              refine l_pure S (p_leq rfl rfl) rfl rfl rfl ?_; clear S a; intro a S
              refine l_pure S (p_pick_t rfl bc14 rfl) rfl rfl rfl ?_; clear S a; intro a S
              refine l_pure S (p_assign rfl) rfl rfl rfl ?_; clear S a; intro a S
              refine l_nil ?_
              refine e_then ?_
              refine c_cond S rfl (fun bc16 => ?_) (fun bc16 => ?_)
              · skip
                have c16 := bc16
                have c16 := of_decide_eq_true c16
                refine c_region ?_
                refine l_pure S (p_move rfl) rfl rfl rfl ?_; clear S a; intro a S
                refine l_pure S (p_move rfl) rfl rfl rfl ?_; clear S a; intro a S
                refine l_pure S (p_sub (r := (R : Int) - 7) rfl rfl (IntWalk.i32_in _ (by omega))) rfl rfl rfl ?_; clear S a; intro a S
                obtain ⟨kA, hkA, hbA, heA⟩ := bt_A (r := R) (by omega)
                refine l_pure S (p_index rfl rfl (fun w => ix_string Tryd.underlying9 (by omega) (show _ < ((7 : Nat) : Int) by omega))) rfl rfl rfl ?_; clear S a; intro a S
                rw [hbA] at S
                refine l_pure S (p_conv rfl (fun w => cv_rune (r := kA) Tryd.underlying5 Tryd.underlying9 (by omega))) rfl rfl rfl ?_; clear S a; intro a S
                refine l_pure S (p_saddL ([92]) ([(kA : Int)]) rfl rfl rfl rfl (by simp only [List.length_append, List.length_cons, List.length_nil, hexl_len]; omega)) rfl rfl rfl ?_; clear S a; intro a S
                refine l_pure S (p_saddL (([34] ++ dn)) (([92] ++ [(kA : Int)])) rfl rfl rfl rfl (by simp only [List.length_append, List.length_cons, List.length_nil, hexl_len]; omega)) rfl rfl rfl ?_; clear S a; intro a S
                have hq : qr s p = ([92] ++ [(kA : Int)]) := by rw [qr_esc hR (by omega), esc_a (by omega), heA]; rfl
                rw [← hq, List.append_assoc [34] dn (qr s p)] at S
                refine l_pure S (p_assign rfl) rfl rfl rfl ?_; clear S a; intro a S
                refine l_nil ?_
                refine e_in 2 ?_
                refine e_in 1 ?_
                refine e_then ?_
                exact ⟨⟨p + (Utf8.decode s p).2, dn ++ qr s p⟩, ⟨S.only ⟨rfl, rfl, rfl, trivial⟩, H, ⟨by omega, by rw [List.append_assoc, ← qt_step hlt]; exact hdn⟩⟩, (show s.size - (p + (Utf8.decode s p).2) < s.size - p by omega)⟩
              · skip
                have c16 := bc16
                have c16 := of_decide_eq_false c16
                refine wp_seq ?_
                refine c_region ?_
                refine l_pure S (p_move rfl) rfl rfl rfl ?_; clear S a; intro a S
                refine l_pure S (p_lss rfl rfl) rfl rfl rfl ?_; clear S a; intro a S
                refine l_pure S (p_move rfl) rfl rfl rfl ?_; clear S a; intro a S
                refine l_split (S.of 58 rfl) (fun bc18 => ?_) (fun bc18 => ?_)
                · skip
                  have c18 := bc18
                  have c18 := of_decide_eq_true c18
                  refine l_off S rfl rfl rfl rfl bc18 rfl rfl ?_; clear S a; intro a S
                  refine l_off S rfl rfl rfl rfl bc18 rfl rfl ?_; clear S a; intro a S
                  refine l_off S rfl rfl rfl rfl bc18 rfl rfl ?_; clear S a; intro a S
                  refine l_offU S rfl rfl rfl rfl rfl rfl ?_; clear S a; intro a S
                  refine l_offU S rfl rfl rfl rfl rfl rfl ?_; clear S a; intro a S
                  refine l_offU S rfl rfl rfl rfl rfl rfl ?_; clear S a; intro a S
                  refine l_offU S rfl rfl rfl rfl rfl rfl ?_; clear S a; intro a S
                  refine l_offU S rfl rfl rfl rfl rfl rfl ?_; clear S a; intro a S
                  refine l_offU S rfl rfl rfl rfl rfl rfl ?_; clear S a; intro a S
                  refine l_offU S rfl rfl rfl rfl rfl rfl ?_; clear S a; intro a S
                  refine l_offU S rfl rfl rfl rfl rfl rfl ?_; clear S a; intro a S
                  refine l_offU S rfl rfl rfl rfl rfl rfl ?_; clear S a; intro a S
                  refine l_offU S rfl rfl rfl rfl rfl rfl ?_; clear S a; intro a S
                  refine l_offU S rfl rfl rfl rfl rfl rfl ?_; clear S a; intro a S
                  refine l_offU S rfl rfl rfl rfl rfl rfl ?_; clear S a; intro a S
                  refine l_offU S rfl rfl rfl rfl rfl rfl ?_; clear S a; intro a S
                  refine l_offU S rfl rfl rfl rfl rfl rfl ?_; clear S a; intro a S
                  refine l_off S rfl rfl rfl rfl bc18 rfl rfl ?_; clear S a; intro a S
                  refine l_pure S (p_pick_t rfl bc18 rfl) rfl rfl rfl ?_; clear S a; intro a S
                  refine l_pure S (p_assign rfl) rfl rfl rfl ?_; clear S a; intro a S
                  refine l_nil ?_
                  refine e_then ?_
                  refine c_cond (b := true) S rfl (fun _ => ?_) (fun h => by cases h)
                  refine c_region ?_
                  refine l_pure S (p_move rfl) rfl rfl rfl ?_; clear S a; intro a S
                  refine l_pure S (p_move rfl) rfl rfl rfl ?_; clear S a; intro a S
                  refine l_pure S (p_move rfl) rfl rfl rfl ?_; clear S a; intro a S
                  have hqx : qr s p = [92, 120] ++ hexl 2 (s.get! p).toNat := by
                    first
                    | exact qr_low hR (by omega)
                    | exact qr_bad hR (by omega) ((dec_bad (hR.trans (by omega))).2 (by omega))
                  refine l_pure S (p_index rfl rfl (fun w => ix_string Tryd.underlying9 (by omega) (by omega))) rfl rfl rfl ?_; clear S a; intro a S
                  rw [bt_get hlt] at S
                  refine l_pure S (p_conv rfl (fun w => cv_int (Tryd.underlying5) (Tryd.underlying117) (r := (((s.get! p).toNat : Nat) : Int)) (by rw [IntKind.wrap_u32]; omega))) rfl rfl rfl ?_; clear S a; intro a S
                  refine l_call S rfl rfl Tryd.func51 rfl rfl (hex_ _ (s.get! p).toNat 2 (by decide)) rfl rfl rfl ?_
                  rintro e w ⟨rfl, hb⟩
                  refine ⟨_, rfl, ?_⟩; clear S a; intro a S
                  replace H := H.later hb; clear hb
                  refine l_pure S (p_saddL ([92, 120]) ((hexl 2 (s.get! p).toNat)) rfl rfl rfl rfl (by simp only [List.length_append, List.length_cons, List.length_nil, hexl_len]; omega)) rfl rfl rfl ?_; clear S a; intro a S
                  refine l_pure S (p_saddL (([34] ++ dn)) (([92, 120] ++ (hexl 2 (s.get! p).toNat))) rfl rfl rfl rfl (by simp only [List.length_append, List.length_cons, List.length_nil, hexl_len]; omega)) rfl rfl rfl ?_; clear S a; intro a S
                  have hq : qr s p = ([92, 120] ++ (hexl 2 (s.get! p).toNat)) := hqx
                  rw [← hq, List.append_assoc [34] dn (qr s p)] at S
                  refine l_pure S (p_assign rfl) rfl rfl rfl ?_; clear S a; intro a S
                  refine l_nil ?_
                  refine e_in 2 ?_
                  refine e_in 1 ?_
                  refine e_then ?_
                  exact ⟨⟨p + (Utf8.decode s p).2, dn ++ qr s p⟩, ⟨S.only ⟨rfl, rfl, rfl, trivial⟩, H, ⟨by omega, by rw [List.append_assoc, ← qt_step hlt]; exact hdn⟩⟩, (show s.size - (p + (Utf8.decode s p).2) < s.size - p by omega)⟩
                · skip
                  have c18 := bc18
                  have c18 := of_decide_eq_false c18
                  refine l_on S rfl rfl rfl rfl bc18 ?_
                  refine l_pure S (p_move rfl) rfl rfl rfl ?_; clear S a; intro a S
                  refine l_on S rfl rfl rfl rfl bc18 ?_
                  refine l_pure S (p_eql rfl rfl) rfl rfl rfl ?_; clear S a; intro a S
                  refine l_on S rfl rfl rfl rfl bc18 ?_
                  refine l_pure S (p_move rfl) rfl rfl rfl ?_; clear S a; intro a S
                  refine l_split (S.of 61 rfl) (fun bc22 => ?_) (fun bc22 => ?_)
                  · skip
                    have c22 := bc22
                    have c22 := eq_of_beq c22
                    refine l_on S rfl rfl rfl rfl bc22 ?_
                    refine l_pure S (p_move rfl) rfl rfl rfl ?_; clear S a; intro a S
                    refine l_on S rfl rfl rfl rfl bc22 ?_
                    refine l_pure S (p_add rfl rfl (nat_add (x := p) (y := 2) (by omega))) rfl rfl rfl ?_; clear S a; intro a S
                    refine l_on S rfl rfl rfl rfl bc22 ?_
                    refine l_pure S (p_move rfl) rfl rfl rfl ?_; clear S a; intro a S
                    refine l_on S rfl rfl rfl rfl bc22 ?_
                    refine l_pure S (p_lens Tryd.underlying9 rfl) rfl rfl rfl ?_; clear S a; intro a S
                    refine l_on S rfl rfl rfl rfl bc22 ?_
                    refine l_pure S (p_lss rfl rfl) rfl rfl rfl ?_; clear S a; intro a S
                    refine l_on S rfl rfl rfl rfl bc22 ?_
                    refine l_pure S (p_move rfl) rfl rfl rfl ?_; clear S a; intro a S
                    refine l_split (S.of 67 rfl) (fun bc24 => ?_) (fun bc24 => ?_)
                    · skip
                      have c24 := bc24
                      have c24 := of_decide_eq_true c24
                      refine l_on S rfl rfl rfl rfl bc24 ?_
                      refine l_pure S (p_move rfl) rfl rfl rfl ?_; clear S a; intro a S
                      refine l_on S rfl rfl rfl rfl bc24 ?_
                      refine l_pure S (p_move rfl) rfl rfl rfl ?_; clear S a; intro a S
                      refine l_on S rfl rfl rfl rfl bc24 ?_
                      refine l_pure S (p_move rfl) rfl rfl rfl ?_; clear S a; intro a S
                      refine l_on S rfl rfl rfl rfl bc24 ?_
                      refine l_pure S (p_add rfl rfl (nat_add (x := p) (y := 3) (by omega))) rfl rfl rfl ?_; clear S a; intro a S
                      refine l_on S rfl rfl rfl rfl bc24 ?_
                      refine l_pure S (p_slice rfl (o_some rfl) (o_some rfl) (fun _ _ => o_none) (fun w => sl_strN (m := p) (m' := p + 3) Tryd.underlying9 rfl rfl (by omega) (by omega))) rfl rfl rfl ?_; clear S a; intro a S
                      refine l_on S rfl rfl rfl rfl bc24 ?_
                      refine l_pure S (p_seql rfl rfl) rfl rfl rfl ?_; clear S a; intro a S
                      rw [lit3 (by omega)] at S
                      refine l_on S rfl rfl rfl rfl bc22 ?_
                      refine l_pure S (p_pick_t rfl bc24 rfl) rfl rfl rfl ?_; clear S a; intro a S
                      refine l_on S rfl rfl rfl rfl bc22 ?_
                      refine l_pure S (p_not rfl) rfl rfl rfl ?_; clear S a; intro a S
                      refine l_on S rfl rfl rfl rfl bc18 ?_
                      refine l_pure S (p_pick_t rfl bc22 rfl) rfl rfl rfl ?_; clear S a; intro a S
                      refine l_pure S (p_pick_f rfl bc18 rfl) rfl rfl rfl ?_; clear S a; intro a S
                      refine l_pure S (p_assign rfl) rfl rfl rfl ?_; clear S a; intro a S
                      refine l_nil ?_
                      refine e_then ?_
                      refine c_cond S rfl (fun bc27 => ?_) (fun bc27 => ?_)
                      · skip
                        have c27 := bc27
                        replace c27 := not_eq_true_ c27
                        have c27 := of_decide_eq_false c27
                        refine c_region ?_
                        refine l_pure S (p_move rfl) rfl rfl rfl ?_; clear S a; intro a S
                        refine l_pure S (p_move rfl) rfl rfl rfl ?_; clear S a; intro a S
                        refine l_pure S (p_move rfl) rfl rfl rfl ?_; clear S a; intro a S
                        have hqx : qr s p = [92, 120] ++ hexl 2 (s.get! p).toNat := by
                          first
                          | exact qr_low hR (by omega)
                          | exact qr_bad hR (by omega) ((dec_bad (hR.trans (by omega))).2 (by omega))
                        refine l_pure S (p_index rfl rfl (fun w => ix_string Tryd.underlying9 (by omega) (by omega))) rfl rfl rfl ?_; clear S a; intro a S
                        rw [bt_get hlt] at S
                        refine l_pure S (p_conv rfl (fun w => cv_int (Tryd.underlying5) (Tryd.underlying117) (r := (((s.get! p).toNat : Nat) : Int)) (by rw [IntKind.wrap_u32]; omega))) rfl rfl rfl ?_; clear S a; intro a S
                        refine l_call S rfl rfl Tryd.func51 rfl rfl (hex_ _ (s.get! p).toNat 2 (by decide)) rfl rfl rfl ?_
                        rintro e w ⟨rfl, hb⟩
                        refine ⟨_, rfl, ?_⟩; clear S a; intro a S
                        replace H := H.later hb; clear hb
                        refine l_pure S (p_saddL ([92, 120]) ((hexl 2 (s.get! p).toNat)) rfl rfl rfl rfl (by simp only [List.length_append, List.length_cons, List.length_nil, hexl_len]; omega)) rfl rfl rfl ?_; clear S a; intro a S
                        refine l_pure S (p_saddL (([34] ++ dn)) (([92, 120] ++ (hexl 2 (s.get! p).toNat))) rfl rfl rfl rfl (by simp only [List.length_append, List.length_cons, List.length_nil, hexl_len]; omega)) rfl rfl rfl ?_; clear S a; intro a S
                        have hq : qr s p = ([92, 120] ++ (hexl 2 (s.get! p).toNat)) := hqx
                        rw [← hq, List.append_assoc [34] dn (qr s p)] at S
                        refine l_pure S (p_assign rfl) rfl rfl rfl ?_; clear S a; intro a S
                        refine l_nil ?_
                        refine e_in 2 ?_
                        refine e_in 1 ?_
                        refine e_then ?_
                        exact ⟨⟨p + (Utf8.decode s p).2, dn ++ qr s p⟩, ⟨S.only ⟨rfl, rfl, rfl, trivial⟩, H, ⟨by omega, by rw [List.append_assoc, ← qt_step hlt]; exact hdn⟩⟩, (show s.size - (p + (Utf8.decode s p).2) < s.size - p by omega)⟩
                      · skip
                        have c27 := bc27
                        replace c27 := not_eq_false_ c27
                        have c27 := of_decide_eq_true c27
                        refine wp_seq ?_
                        refine c_region ?_
                        refine l_pure S (p_move rfl) rfl rfl rfl ?_; clear S a; intro a S
                        refine l_pure S (p_lss rfl rfl) rfl rfl rfl ?_; clear S a; intro a S
                        refine l_pure S (p_assign rfl) rfl rfl rfl ?_; clear S a; intro a S
                        refine l_nil ?_
                        refine e_then ?_
                        refine c_cond S rfl (fun bc29 => ?_) (fun bc29 => ?_)
                        · skip
                          have c29 := bc29
                          have c29 := of_decide_eq_true c29
                          have hnb : ¬ (R = 65533 ∧ (Utf8.decode s p).2 = 1) := by
                            rintro ⟨h1, h2⟩
                            have h3 := (dec_bad (hR.trans h1)).1 h2
                            omega
                          refine c_region ?_
                          refine l_pure S (p_move rfl) rfl rfl rfl ?_; clear S a; intro a S
                          refine l_pure S (p_move rfl) rfl rfl rfl ?_; clear S a; intro a S
                          refine l_pure S (p_conv rfl (fun w => cv_int (Tryd.underlying21) (Tryd.underlying117) (r := (R : Int)) (by rw [IntKind.wrap_u32]; omega))) rfl rfl rfl ?_; clear S a; intro a S
                          refine l_call S rfl rfl Tryd.func51 rfl rfl (hex_ _ R 4 (by decide)) rfl rfl rfl ?_
                          rintro e w ⟨rfl, hb⟩
                          refine ⟨_, rfl, ?_⟩; clear S a; intro a S
                          replace H := H.later hb; clear hb
                          refine l_pure S (p_saddL ([92, 117]) ((hexl 4 R)) rfl rfl rfl rfl (by simp only [List.length_append, List.length_cons, List.length_nil, hexl_len]; omega)) rfl rfl rfl ?_; clear S a; intro a S
                          refine l_pure S (p_saddL (([34] ++ dn)) (([92, 117] ++ (hexl 4 R))) rfl rfl rfl rfl (by simp only [List.length_append, List.length_cons, List.length_nil, hexl_len]; omega)) rfl rfl rfl ?_; clear S a; intro a S
                          have hq : qr s p = ([92, 117] ++ (hexl 4 R)) := by rw [qr_esc hR hnb, esc_u (by omega)]
                          rw [← hq, List.append_assoc [34] dn (qr s p)] at S
                          refine l_pure S (p_assign rfl) rfl rfl rfl ?_; clear S a; intro a S
                          refine l_nil ?_
                          refine e_in 2 ?_
                          refine e_in 1 ?_
                          refine e_then ?_
                          exact ⟨⟨p + (Utf8.decode s p).2, dn ++ qr s p⟩, ⟨S.only ⟨rfl, rfl, rfl, trivial⟩, H, ⟨by omega, by rw [List.append_assoc, ← qt_step hlt]; exact hdn⟩⟩, (show s.size - (p + (Utf8.decode s p).2) < s.size - p by omega)⟩
                        · skip
                          have c29 := bc29
                          have c29 := of_decide_eq_false c29
                          have hnb : ¬ (R = 65533 ∧ (Utf8.decode s p).2 = 1) := by
                            rintro ⟨h1, h2⟩
                            have h3 := (dec_bad (hR.trans h1)).1 h2
                            omega
                          refine c_region ?_
                          refine l_pure S (p_move rfl) rfl rfl rfl ?_; clear S a; intro a S
                          refine l_pure S (p_move rfl) rfl rfl rfl ?_; clear S a; intro a S
                          refine l_pure S (p_conv rfl (fun w => cv_int (Tryd.underlying21) (Tryd.underlying117) (r := (R : Int)) (by rw [IntKind.wrap_u32]; omega))) rfl rfl rfl ?_; clear S a; intro a S
                          refine l_call S rfl rfl Tryd.func51 rfl rfl (hex_ _ R 8 (by decide)) rfl rfl rfl ?_
                          rintro e w ⟨rfl, hb⟩
                          refine ⟨_, rfl, ?_⟩; clear S a; intro a S
                          replace H := H.later hb; clear hb
                          refine l_pure S (p_saddL ([92, 85]) ((hexl 8 R)) rfl rfl rfl rfl (by simp only [List.length_append, List.length_cons, List.length_nil, hexl_len]; omega)) rfl rfl rfl ?_; clear S a; intro a S
                          refine l_pure S (p_saddL (([34] ++ dn)) (([92, 85] ++ (hexl 8 R))) rfl rfl rfl rfl (by simp only [List.length_append, List.length_cons, List.length_nil, hexl_len]; omega)) rfl rfl rfl ?_; clear S a; intro a S
                          have hq : qr s p = ([92, 85] ++ (hexl 8 R)) := by rw [qr_esc hR hnb, esc_U (by omega)]
                          rw [← hq, List.append_assoc [34] dn (qr s p)] at S
                          refine l_pure S (p_assign rfl) rfl rfl rfl ?_; clear S a; intro a S
                          refine l_nil ?_
                          refine e_in 2 ?_
                          refine e_in 1 ?_
                          refine e_then ?_
                          exact ⟨⟨p + (Utf8.decode s p).2, dn ++ qr s p⟩, ⟨S.only ⟨rfl, rfl, rfl, trivial⟩, H, ⟨by omega, by rw [List.append_assoc, ← qt_step hlt]; exact hdn⟩⟩, (show s.size - (p + (Utf8.decode s p).2) < s.size - p by omega)⟩
                    · skip
                      have c24 := bc24
                      have c24 := of_decide_eq_false c24
                      refine l_off S rfl rfl rfl rfl bc24 rfl rfl ?_; clear S a; intro a S
                      refine l_off S rfl rfl rfl rfl bc24 rfl rfl ?_; clear S a; intro a S
                      refine l_off S rfl rfl rfl rfl bc24 rfl rfl ?_; clear S a; intro a S
                      refine l_off S rfl rfl rfl rfl bc24 rfl rfl ?_; clear S a; intro a S
                      refine l_off S rfl rfl rfl rfl bc24 rfl rfl ?_; clear S a; intro a S
                      refine l_off S rfl rfl rfl rfl bc24 rfl rfl ?_; clear S a; intro a S
                      refine l_on S rfl rfl rfl rfl bc22 ?_
                      refine l_pure S (p_pick_f rfl bc24 rfl) rfl rfl rfl ?_; clear S a; intro a S
                      refine l_on S rfl rfl rfl rfl bc22 ?_
                      refine l_pure S (p_not rfl) rfl rfl rfl ?_; clear S a; intro a S
                      refine l_on S rfl rfl rfl rfl bc18 ?_
                      refine l_pure S (p_pick_t rfl bc22 rfl) rfl rfl rfl ?_; clear S a; intro a S
                      refine l_pure S (p_pick_f rfl bc18 rfl) rfl rfl rfl ?_; clear S a; intro a S
                      refine l_pure S (p_assign rfl) rfl rfl rfl ?_; clear S a; intro a S
                      refine l_nil ?_
                      refine e_then ?_
                      refine c_cond (b := true) S rfl (fun _ => ?_) (fun h => by cases h)
                      refine c_region ?_
                      refine l_pure S (p_move rfl) rfl rfl rfl ?_; clear S a; intro a S
                      refine l_pure S (p_move rfl) rfl rfl rfl ?_; clear S a; intro a S
                      refine l_pure S (p_move rfl) rfl rfl rfl ?_; clear S a; intro a S
                      have hqx : qr s p = [92, 120] ++ hexl 2 (s.get! p).toNat := by
                        first
                        | exact qr_low hR (by omega)
                        | exact qr_bad hR (by omega) ((dec_bad (hR.trans (by omega))).2 (by omega))
                      refine l_pure S (p_index rfl rfl (fun w => ix_string Tryd.underlying9 (by omega) (by omega))) rfl rfl rfl ?_; clear S a; intro a S
                      rw [bt_get hlt] at S
                      refine l_pure S (p_conv rfl (fun w => cv_int (Tryd.underlying5) (Tryd.underlying117) (r := (((s.get! p).toNat : Nat) : Int)) (by rw [IntKind.wrap_u32]; omega))) rfl rfl rfl ?_; clear S a; intro a S
                      refine l_call S rfl rfl Tryd.func51 rfl rfl (hex_ _ (s.get! p).toNat 2 (by decide)) rfl rfl rfl ?_
                      rintro e w ⟨rfl, hb⟩
                      refine ⟨_, rfl, ?_⟩; clear S a; intro a S
                      replace H := H.later hb; clear hb
                      refine l_pure S (p_saddL ([92, 120]) ((hexl 2 (s.get! p).toNat)) rfl rfl rfl rfl (by simp only [List.length_append, List.length_cons, List.length_nil, hexl_len]; omega)) rfl rfl rfl ?_; clear S a; intro a S
                      refine l_pure S (p_saddL (([34] ++ dn)) (([92, 120] ++ (hexl 2 (s.get! p).toNat))) rfl rfl rfl rfl (by simp only [List.length_append, List.length_cons, List.length_nil, hexl_len]; omega)) rfl rfl rfl ?_; clear S a; intro a S
                      have hq : qr s p = ([92, 120] ++ (hexl 2 (s.get! p).toNat)) := hqx
                      rw [← hq, List.append_assoc [34] dn (qr s p)] at S
                      refine l_pure S (p_assign rfl) rfl rfl rfl ?_; clear S a; intro a S
                      refine l_nil ?_
                      refine e_in 2 ?_
                      refine e_in 1 ?_
                      refine e_then ?_
                      exact ⟨⟨p + (Utf8.decode s p).2, dn ++ qr s p⟩, ⟨S.only ⟨rfl, rfl, rfl, trivial⟩, H, ⟨by omega, by rw [List.append_assoc, ← qt_step hlt]; exact hdn⟩⟩, (show s.size - (p + (Utf8.decode s p).2) < s.size - p by omega)⟩
                  · skip
                    have c22 := bc22
                    have c22 := ne_of_beq_false c22
                    refine l_off S rfl rfl rfl rfl bc22 rfl rfl ?_; clear S a; intro a S
                    refine l_off S rfl rfl rfl rfl bc22 rfl rfl ?_; clear S a; intro a S
                    refine l_off S rfl rfl rfl rfl bc22 rfl rfl ?_; clear S a; intro a S
                    refine l_off S rfl rfl rfl rfl bc22 rfl rfl ?_; clear S a; intro a S
                    refine l_off S rfl rfl rfl rfl bc22 rfl rfl ?_; clear S a; intro a S
                    refine l_off S rfl rfl rfl rfl bc22 rfl rfl ?_; clear S a; intro a S
                    refine l_offU S rfl rfl rfl rfl rfl rfl ?_; clear S a; intro a S
                    refine l_offU S rfl rfl rfl rfl rfl rfl ?_; clear S a; intro a S
                    refine l_offU S rfl rfl rfl rfl rfl rfl ?_; clear S a; intro a S
                    refine l_offU S rfl rfl rfl rfl rfl rfl ?_; clear S a; intro a S
                    refine l_offU S rfl rfl rfl rfl rfl rfl ?_; clear S a; intro a S
                    refine l_offU S rfl rfl rfl rfl rfl rfl ?_; clear S a; intro a S
                    refine l_off S rfl rfl rfl rfl bc22 rfl rfl ?_; clear S a; intro a S
                    refine l_off S rfl rfl rfl rfl bc22 rfl rfl ?_; clear S a; intro a S
                    refine l_on S rfl rfl rfl rfl bc18 ?_
                    refine l_pure S (p_pick_f rfl bc22 rfl) rfl rfl rfl ?_; clear S a; intro a S
                    refine l_pure S (p_pick_f rfl bc18 rfl) rfl rfl rfl ?_; clear S a; intro a S
                    refine l_pure S (p_assign rfl) rfl rfl rfl ?_; clear S a; intro a S
                    refine l_nil ?_
                    refine e_then ?_
                    refine c_cond (b := false) S rfl (fun h => by cases h) (fun _ => ?_)
                    refine wp_seq ?_
                    refine c_region ?_
                    refine l_pure S (p_move rfl) rfl rfl rfl ?_; clear S a; intro a S
                    refine l_pure S (p_lss rfl rfl) rfl rfl rfl ?_; clear S a; intro a S
                    refine l_pure S (p_assign rfl) rfl rfl rfl ?_; clear S a; intro a S
                    refine l_nil ?_
                    refine e_then ?_
                    refine c_cond S rfl (fun bc36 => ?_) (fun bc36 => ?_)
                    · skip
                      have c36 := bc36
                      have c36 := of_decide_eq_true c36
                      have hnb : ¬ (R = 65533 ∧ (Utf8.decode s p).2 = 1) := by
                        rintro ⟨h1, h2⟩
                        have h3 := (dec_bad (hR.trans h1)).1 h2
                        omega
                      refine c_region ?_
                      refine l_pure S (p_move rfl) rfl rfl rfl ?_; clear S a; intro a S
                      refine l_pure S (p_move rfl) rfl rfl rfl ?_; clear S a; intro a S
                      refine l_pure S (p_conv rfl (fun w => cv_int (Tryd.underlying21) (Tryd.underlying117) (r := (R : Int)) (by rw [IntKind.wrap_u32]; omega))) rfl rfl rfl ?_; clear S a; intro a S
                      refine l_call S rfl rfl Tryd.func51 rfl rfl (hex_ _ R 4 (by decide)) rfl rfl rfl ?_
                      rintro e w ⟨rfl, hb⟩
                      refine ⟨_, rfl, ?_⟩; clear S a; intro a S
                      replace H := H.later hb; clear hb
                      refine l_pure S (p_saddL ([92, 117]) ((hexl 4 R)) rfl rfl rfl rfl (by simp only [List.length_append, List.length_cons, List.length_nil, hexl_len]; omega)) rfl rfl rfl ?_; clear S a; intro a S
                      refine l_pure S (p_saddL (([34] ++ dn)) (([92, 117] ++ (hexl 4 R))) rfl rfl rfl rfl (by simp only [List.length_append, List.length_cons, List.length_nil, hexl_len]; omega)) rfl rfl rfl ?_; clear S a; intro a S
                      have hq : qr s p = ([92, 117] ++ (hexl 4 R)) := by rw [qr_esc hR hnb, esc_u (by omega)]
                      rw [← hq, List.append_assoc [34] dn (qr s p)] at S
                      refine l_pure S (p_assign rfl) rfl rfl rfl ?_; clear S a; intro a S
                      refine l_nil ?_
                      refine e_in 2 ?_
                      refine e_in 1 ?_
                      refine e_then ?_
                      exact ⟨⟨p + (Utf8.decode s p).2, dn ++ qr s p⟩, ⟨S.only ⟨rfl, rfl, rfl, trivial⟩, H, ⟨by omega, by rw [List.append_assoc, ← qt_step hlt]; exact hdn⟩⟩, (show s.size - (p + (Utf8.decode s p).2) < s.size - p by omega)⟩
                    · skip
                      have c36 := bc36
                      have c36 := of_decide_eq_false c36
                      have hnb : ¬ (R = 65533 ∧ (Utf8.decode s p).2 = 1) := by
                        rintro ⟨h1, h2⟩
                        have h3 := (dec_bad (hR.trans h1)).1 h2
                        omega
                      refine c_region ?_
                      refine l_pure S (p_move rfl) rfl rfl rfl ?_; clear S a; intro a S
                      refine l_pure S (p_move rfl) rfl rfl rfl ?_; clear S a; intro a S
                      refine l_pure S (p_conv rfl (fun w => cv_int (Tryd.underlying21) (Tryd.underlying117) (r := (R : Int)) (by rw [IntKind.wrap_u32]; omega))) rfl rfl rfl ?_; clear S a; intro a S
                      refine l_call S rfl rfl Tryd.func51 rfl rfl (hex_ _ R 8 (by decide)) rfl rfl rfl ?_
                      rintro e w ⟨rfl, hb⟩
                      refine ⟨_, rfl, ?_⟩; clear S a; intro a S
                      replace H := H.later hb; clear hb
                      refine l_pure S (p_saddL ([92, 85]) ((hexl 8 R)) rfl rfl rfl rfl (by simp only [List.length_append, List.length_cons, List.length_nil, hexl_len]; omega)) rfl rfl rfl ?_; clear S a; intro a S
                      refine l_pure S (p_saddL (([34] ++ dn)) (([92, 85] ++ (hexl 8 R))) rfl rfl rfl rfl (by simp only [List.length_append, List.length_cons, List.length_nil, hexl_len]; omega)) rfl rfl rfl ?_; clear S a; intro a S
                      have hq : qr s p = ([92, 85] ++ (hexl 8 R)) := by rw [qr_esc hR hnb, esc_U (by omega)]
                      rw [← hq, List.append_assoc [34] dn (qr s p)] at S
                      refine l_pure S (p_assign rfl) rfl rfl rfl ?_; clear S a; intro a S
                      refine l_nil ?_
                      refine e_in 2 ?_
                      refine e_in 1 ?_
                      refine e_then ?_
                      exact ⟨⟨p + (Utf8.decode s p).2, dn ++ qr s p⟩, ⟨S.only ⟨rfl, rfl, rfl, trivial⟩, H, ⟨by omega, by rw [List.append_assoc, ← qt_step hlt]; exact hdn⟩⟩, (show s.size - (p + (Utf8.decode s p).2) < s.size - p by omega)⟩
            · skip
              have c14 := bc14
              have c14 := of_decide_eq_false c14
              refine l_off S rfl rfl rfl rfl bc14 rfl rfl ?_; clear S a; intro a S
              refine l_off S rfl rfl rfl rfl bc14 rfl rfl ?_; clear S a; intro a S
              refine l_pure S (p_pick_f rfl bc14 rfl) rfl rfl rfl ?_; clear S a; intro a S
              refine l_pure S (p_assign rfl) rfl rfl rfl ?_; clear S a; intro a S
              refine l_nil ?_
              refine e_then ?_
              refine c_cond (b := false) S rfl (fun h => by cases h) (fun _ => ?_)
              refine wp_seq ?_
              refine c_region ?_
              refine l_pure S (p_move rfl) rfl rfl rfl ?_; clear S a; intro a S
              refine l_pure S (p_lss rfl rfl) rfl rfl rfl ?_; clear S a; intro a S
              refine l_pure S (p_move rfl) rfl rfl rfl ?_; clear S a; intro a S
              refine l_split (S.of 58 rfl) (fun bc40 => ?_) (fun bc40 => ?_)
              · skip
                have c40 := bc40
                have c40 := of_decide_eq_true c40
                refine l_off S rfl rfl rfl rfl bc40 rfl rfl ?_; clear S a; intro a S
                refine l_off S rfl rfl rfl rfl bc40 rfl rfl ?_; clear S a; intro a S
                refine l_off S rfl rfl rfl rfl bc40 rfl rfl ?_; clear S a; intro a S
                refine l_offU S rfl rfl rfl rfl rfl rfl ?_; clear S a; intro a S
                refine l_offU S rfl rfl rfl rfl rfl rfl ?_; clear S a; intro a S
                refine l_offU S rfl rfl rfl rfl rfl rfl ?_; clear S a; intro a S
                refine l_offU S rfl rfl rfl rfl rfl rfl ?_; clear S a; intro a S
                refine l_offU S rfl rfl rfl rfl rfl rfl ?_; clear S a; intro a S
                refine l_offU S rfl rfl rfl rfl rfl rfl ?_; clear S a; intro a S
                refine l_offU S rfl rfl rfl rfl rfl rfl ?_; clear S a; intro a S
                refine l_offU S rfl rfl rfl rfl rfl rfl ?_; clear S a; intro a S
                refine l_offU S rfl rfl rfl rfl rfl rfl ?_; clear S a; intro a S
                refine l_offU S rfl rfl rfl rfl rfl rfl ?_; clear S a; intro a S
                refine l_offU S rfl rfl rfl rfl rfl rfl ?_; clear S a; intro a S
                refine l_offU S rfl rfl rfl rfl rfl rfl ?_; clear S a; intro a S
                refine l_offU S rfl rfl rfl rfl rfl rfl ?_; clear S a; intro a S
                refine l_offU S rfl rfl rfl rfl rfl rfl ?_; clear S a; intro a S
                refine l_off S rfl rfl rfl rfl bc40 rfl rfl ?_; clear S a; intro a S
                refine l_pure S (p_pick_t rfl bc40 rfl) rfl rfl rfl ?_; clear S a; intro a S
                refine l_pure S (p_assign rfl) rfl rfl rfl ?_; clear S a; intro a S
                refine l_nil ?_
                refine e_then ?_
                refine c_cond (b := true) S rfl (fun _ => ?_) (fun h => by cases h)
                refine c_region ?_
                refine l_pure S (p_move rfl) rfl rfl rfl ?_; clear S a; intro a S
                refine l_pure S (p_move rfl) rfl rfl rfl ?_; clear S a; intro a S
                refine l_pure S (p_move rfl) rfl rfl rfl ?_; clear S a; intro a S
                have hqx : qr s p = [92, 120] ++ hexl 2 (s.get! p).toNat := by
                  first
                  | exact qr_low hR (by omega)
                  | exact qr_bad hR (by omega) ((dec_bad (hR.trans (by omega))).2 (by omega))
                refine l_pure S (p_index rfl rfl (fun w => ix_string Tryd.underlying9 (by omega) (by omega))) rfl rfl rfl ?_; clear S a; intro a S
                rw [bt_get hlt] at S
                refine l_pure S (p_conv rfl (fun w => cv_int (Tryd.underlying5) (Tryd.underlying117) (r := (((s.get! p).toNat : Nat) : Int)) (by rw [IntKind.wrap_u32]; omega))) rfl rfl rfl ?_; clear S a; intro a S
                refine l_call S rfl rfl Tryd.func51 rfl rfl (hex_ _ (s.get! p).toNat 2 (by decide)) rfl rfl rfl ?_
                rintro e w ⟨rfl, hb⟩
                refine ⟨_, rfl, ?_⟩; clear S a; intro a S
                replace H := H.later hb; clear hb
                refine l_pure S (p_saddL ([92, 120]) ((hexl 2 (s.get! p).toNat)) rfl rfl rfl rfl (by simp only [List.length_append, List.length_cons, List.length_nil, hexl_len]; omega)) rfl rfl rfl ?_; clear S a; intro a S
                refine l_pure S (p_saddL (([34] ++ dn)) (([92, 120] ++ (hexl 2 (s.get! p).toNat))) rfl rfl rfl rfl (by simp only [List.length_append, List.length_cons, List.length_nil, hexl_len]; omega)) rfl rfl rfl ?_; clear S a; intro a S
                have hq : qr s p = ([92, 120] ++ (hexl 2 (s.get! p).toNat)) := hqx
                rw [← hq, List.append_assoc [34] dn (qr s p)] at S
                refine l_pure S (p_assign rfl) rfl rfl rfl ?_; clear S a; intro a S
                refine l_nil ?_
                refine e_in 2 ?_
                refine e_in 1 ?_
                refine e_then ?_
                exact ⟨⟨p + (Utf8.decode s p).2, dn ++ qr s p⟩, ⟨S.only ⟨rfl, rfl, rfl, trivial⟩, H, ⟨by omega, by rw [List.append_assoc, ← qt_step hlt]; exact hdn⟩⟩, (show s.size - (p + (Utf8.decode s p).2) < s.size - p by omega)⟩
              · skip
                have c40 := bc40
                have c40 := of_decide_eq_false c40
                refine l_on S rfl rfl rfl rfl bc40 ?_
                refine l_pure S (p_move rfl) rfl rfl rfl ?_; clear S a; intro a S
                refine l_on S rfl rfl rfl rfl bc40 ?_
                refine l_pure S (p_eql rfl rfl) rfl rfl rfl ?_; clear S a; intro a S
                refine l_on S rfl rfl rfl rfl bc40 ?_
                refine l_pure S (p_move rfl) rfl rfl rfl ?_; clear S a; intro a S
                refine l_split (S.of 61 rfl) (fun bc44 => ?_) (fun bc44 => ?_)
                · skip
                  have c44 := bc44
                  have c44 := eq_of_beq c44
                  refine l_on S rfl rfl rfl rfl bc44 ?_
                  refine l_pure S (p_move rfl) rfl rfl rfl ?_; clear S a; intro a S
                  refine l_on S rfl rfl rfl rfl bc44 ?_
                  refine l_pure S (p_add rfl rfl (nat_add (x := p) (y := 2) (by omega))) rfl rfl rfl ?_; clear S a; intro a S
                  refine l_on S rfl rfl rfl rfl bc44 ?_
                  refine l_pure S (p_move rfl) rfl rfl rfl ?_; clear S a; intro a S
                  refine l_on S rfl rfl rfl rfl bc44 ?_
                  refine l_pure S (p_lens Tryd.underlying9 rfl) rfl rfl rfl ?_; clear S a; intro a S
                  refine l_on S rfl rfl rfl rfl bc44 ?_
                  refine l_pure S (p_lss rfl rfl) rfl rfl rfl ?_; clear S a; intro a S
                  refine l_on S rfl rfl rfl rfl bc44 ?_
                  refine l_pure S (p_move rfl) rfl rfl rfl ?_; clear S a; intro a S
                  refine l_split (S.of 67 rfl) (fun bc46 => ?_) (fun bc46 => ?_)
                  · skip
                    have c46 := bc46
                    have c46 := of_decide_eq_true c46
                    refine l_on S rfl rfl rfl rfl bc46 ?_
                    refine l_pure S (p_move rfl) rfl rfl rfl ?_; clear S a; intro a S
                    refine l_on S rfl rfl rfl rfl bc46 ?_
                    refine l_pure S (p_move rfl) rfl rfl rfl ?_; clear S a; intro a S
                    refine l_on S rfl rfl rfl rfl bc46 ?_
                    refine l_pure S (p_move rfl) rfl rfl rfl ?_; clear S a; intro a S
                    refine l_on S rfl rfl rfl rfl bc46 ?_
                    refine l_pure S (p_add rfl rfl (nat_add (x := p) (y := 3) (by omega))) rfl rfl rfl ?_; clear S a; intro a S
                    refine l_on S rfl rfl rfl rfl bc46 ?_
                    refine l_pure S (p_slice rfl (o_some rfl) (o_some rfl) (fun _ _ => o_none) (fun w => sl_strN (m := p) (m' := p + 3) Tryd.underlying9 rfl rfl (by omega) (by omega))) rfl rfl rfl ?_; clear S a; intro a S
                    refine l_on S rfl rfl rfl rfl bc46 ?_
                    refine l_pure S (p_seql rfl rfl) rfl rfl rfl ?_; clear S a; intro a S
                    rw [lit3 (by omega)] at S
                    refine l_on S rfl rfl rfl rfl bc44 ?_
                    refine l_pure S (p_pick_t rfl bc46 rfl) rfl rfl rfl ?_; clear S a; intro a S
                    refine l_on S rfl rfl rfl rfl bc44 ?_
                    refine l_pure S (p_not rfl) rfl rfl rfl ?_; clear S a; intro a S
                    refine l_on S rfl rfl rfl rfl bc40 ?_
                    refine l_pure S (p_pick_t rfl bc44 rfl) rfl rfl rfl ?_; clear S a; intro a S
                    refine l_pure S (p_pick_f rfl bc40 rfl) rfl rfl rfl ?_; clear S a; intro a S
                    refine l_pure S (p_assign rfl) rfl rfl rfl ?_; clear S a; intro a S
                    refine l_nil ?_
                    refine e_then ?_
                    refine c_cond S rfl (fun bc49 => ?_) (fun bc49 => ?_)
                    · skip
                      have c49 := bc49
                      replace c49 := not_eq_true_ c49
                      have c49 := of_decide_eq_false c49
                      refine c_region ?_
                      refine l_pure S (p_move rfl) rfl rfl rfl ?_; clear S a; intro a S
                      refine l_pure S (p_move rfl) rfl rfl rfl ?_; clear S a; intro a S
                      refine l_pure S (p_move rfl) rfl rfl rfl ?_; clear S a; intro a S
                      have hqx : qr s p = [92, 120] ++ hexl 2 (s.get! p).toNat := by
                        first
                        | exact qr_low hR (by omega)
                        | exact qr_bad hR (by omega) ((dec_bad (hR.trans (by omega))).2 (by omega))
                      refine l_pure S (p_index rfl rfl (fun w => ix_string Tryd.underlying9 (by omega) (by omega))) rfl rfl rfl ?_; clear S a; intro a S
                      rw [bt_get hlt] at S
                      refine l_pure S (p_conv rfl (fun w => cv_int (Tryd.underlying5) (Tryd.underlying117) (r := (((s.get! p).toNat : Nat) : Int)) (by rw [IntKind.wrap_u32]; omega))) rfl rfl rfl ?_; clear S a; intro a S
                      refine l_call S rfl rfl Tryd.func51 rfl rfl (hex_ _ (s.get! p).toNat 2 (by decide)) rfl rfl rfl ?_
                      rintro e w ⟨rfl, hb⟩
                      refine ⟨_, rfl, ?_⟩; clear S a; intro a S
                      replace H := H.later hb; clear hb
                      refine l_pure S (p_saddL ([92, 120]) ((hexl 2 (s.get! p).toNat)) rfl rfl rfl rfl (by simp only [List.length_append, List.length_cons, List.length_nil, hexl_len]; omega)) rfl rfl rfl ?_; clear S a; intro a S
                      refine l_pure S (p_saddL (([34] ++ dn)) (([92, 120] ++ (hexl 2 (s.get! p).toNat))) rfl rfl rfl rfl (by simp only [List.length_append, List.length_cons, List.length_nil, hexl_len]; omega)) rfl rfl rfl ?_; clear S a; intro a S
                      have hq : qr s p = ([92, 120] ++ (hexl 2 (s.get! p).toNat)) := hqx
                      rw [← hq, List.append_assoc [34] dn (qr s p)] at S
                      refine l_pure S (p_assign rfl) rfl rfl rfl ?_; clear S a; intro a S
                      refine l_nil ?_
                      refine e_in 2 ?_
                      refine e_in 1 ?_
                      refine e_then ?_
                      exact ⟨⟨p + (Utf8.decode s p).2, dn ++ qr s p⟩, ⟨S.only ⟨rfl, rfl, rfl, trivial⟩, H, ⟨by omega, by rw [List.append_assoc, ← qt_step hlt]; exact hdn⟩⟩, (show s.size - (p + (Utf8.decode s p).2) < s.size - p by omega)⟩
                    · skip
                      have c49 := bc49
                      replace c49 := not_eq_false_ c49
                      have c49 := of_decide_eq_true c49
                      refine wp_seq ?_
                      refine c_region ?_
                      refine l_pure S (p_move rfl) rfl rfl rfl ?_; clear S a; intro a S
                      refine l_pure S (p_lss rfl rfl) rfl rfl rfl ?_; clear S a; intro a S
                      refine l_pure S (p_assign rfl) rfl rfl rfl ?_; clear S a; intro a S
                      refine l_nil ?_
                      refine e_then ?_
                      refine c_cond S rfl (fun bc51 => ?_) (fun bc51 => ?_)
                      · skip
                        have c51 := bc51
                        have c51 := of_decide_eq_true c51
                        have hnb : ¬ (R = 65533 ∧ (Utf8.decode s p).2 = 1) := by
                          rintro ⟨h1, h2⟩
                          have h3 := (dec_bad (hR.trans h1)).1 h2
                          omega
                        refine c_region ?_
                        refine l_pure S (p_move rfl) rfl rfl rfl ?_; clear S a; intro a S
                        refine l_pure S (p_move rfl) rfl rfl rfl ?_; clear S a; intro a S
                        refine l_pure S (p_conv rfl (fun w => cv_int (Tryd.underlying21) (Tryd.underlying117) (r := (R : Int)) (by rw [IntKind.wrap_u32]; omega))) rfl rfl rfl ?_; clear S a; intro a S
                        refine l_call S rfl rfl Tryd.func51 rfl rfl (hex_ _ R 4 (by decide)) rfl rfl rfl ?_
                        rintro e w ⟨rfl, hb⟩
                        refine ⟨_, rfl, ?_⟩; clear S a; intro a S
                        replace H := H.later hb; clear hb
                        refine l_pure S (p_saddL ([92, 117]) ((hexl 4 R)) rfl rfl rfl rfl (by simp only [List.length_append, List.length_cons, List.length_nil, hexl_len]; omega)) rfl rfl rfl ?_; clear S a; intro a S
                        refine l_pure S (p_saddL (([34] ++ dn)) (([92, 117] ++ (hexl 4 R))) rfl rfl rfl rfl (by simp only [List.length_append, List.length_cons, List.length_nil, hexl_len]; omega)) rfl rfl rfl ?_; clear S a; intro a S
                        have hq : qr s p = ([92, 117] ++ (hexl 4 R)) := by rw [qr_esc hR hnb, esc_u (by omega)]
                        rw [← hq, List.append_assoc [34] dn (qr s p)] at S
                        refine l_pure S (p_assign rfl) rfl rfl rfl ?_; clear S a; intro a S
                        refine l_nil ?_
                        refine e_in 2 ?_
                        refine e_in 1 ?_
                        refine e_then ?_
                        exact ⟨⟨p + (Utf8.decode s p).2, dn ++ qr s p⟩, ⟨S.only ⟨rfl, rfl, rfl, trivial⟩, H, ⟨by omega, by rw [List.append_assoc, ← qt_step hlt]; exact hdn⟩⟩, (show s.size - (p + (Utf8.decode s p).2) < s.size - p by omega)⟩
                      · skip
                        have c51 := bc51
                        have c51 := of_decide_eq_false c51
                        have hnb : ¬ (R = 65533 ∧ (Utf8.decode s p).2 = 1) := by
                          rintro ⟨h1, h2⟩
                          have h3 := (dec_bad (hR.trans h1)).1 h2
                          omega
                        refine c_region ?_
                        refine l_pure S (p_move rfl) rfl rfl rfl ?_; clear S a; intro a S
                        refine l_pure S (p_move rfl) rfl rfl rfl ?_; clear S a; intro a S
                        refine l_pure S (p_conv rfl (fun w => cv_int (Tryd.underlying21) (Tryd.underlying117) (r := (R : Int)) (by rw [IntKind.wrap_u32]; omega))) rfl rfl rfl ?_; clear S a; intro a S
                        refine l_call S rfl rfl Tryd.func51 rfl rfl (hex_ _ R 8 (by decide)) rfl rfl rfl ?_
                        rintro e w ⟨rfl, hb⟩
                        refine ⟨_, rfl, ?_⟩; clear S a; intro a S
                        replace H := H.later hb; clear hb
                        refine l_pure S (p_saddL ([92, 85]) ((hexl 8 R)) rfl rfl rfl rfl (by simp only [List.length_append, List.length_cons, List.length_nil, hexl_len]; omega)) rfl rfl rfl ?_; clear S a; intro a S
                        refine l_pure S (p_saddL (([34] ++ dn)) (([92, 85] ++ (hexl 8 R))) rfl rfl rfl rfl (by simp only [List.length_append, List.length_cons, List.length_nil, hexl_len]; omega)) rfl rfl rfl ?_; clear S a; intro a S
                        have hq : qr s p = ([92, 85] ++ (hexl 8 R)) := by rw [qr_esc hR hnb, esc_U (by omega)]
                        rw [← hq, List.append_assoc [34] dn (qr s p)] at S
                        refine l_pure S (p_assign rfl) rfl rfl rfl ?_; clear S a; intro a S
                        refine l_nil ?_
                        refine e_in 2 ?_
                        refine e_in 1 ?_
                        refine e_then ?_
                        exact ⟨⟨p + (Utf8.decode s p).2, dn ++ qr s p⟩, ⟨S.only ⟨rfl, rfl, rfl, trivial⟩, H, ⟨by omega, by rw [List.append_assoc, ← qt_step hlt]; exact hdn⟩⟩, (show s.size - (p + (Utf8.decode s p).2) < s.size - p by omega)⟩
                  · skip
                    have c46 := bc46
                    have c46 := of_decide_eq_false c46
                    refine l_off S rfl rfl rfl rfl bc46 rfl rfl ?_; clear S a; intro a S
                    refine l_off S rfl rfl rfl rfl bc46 rfl rfl ?_; clear S a; intro a S
                    refine l_off S rfl rfl rfl rfl bc46 rfl rfl ?_; clear S a; intro a S
                    refine l_off S rfl rfl rfl rfl bc46 rfl rfl ?_; clear S a; intro a S
                    refine l_off S rfl rfl rfl rfl bc46 rfl rfl ?_; clear S a; intro a S
                    refine l_off S rfl rfl rfl rfl bc46 rfl rfl ?_; clear S a; intro a S
                    refine l_on S rfl rfl rfl rfl bc44 ?_
                    refine l_pure S (p_pick_f rfl bc46 rfl) rfl rfl rfl ?_; clear S a; intro a S
                    refine l_on S rfl rfl rfl rfl bc44 ?_
                    refine l_pure S (p_not rfl) rfl rfl rfl ?_; clear S a; intro a S
                    refine l_on S rfl rfl rfl rfl bc40 ?_
                    refine l_pure S (p_pick_t rfl bc44 rfl) rfl rfl rfl ?_; clear S a; intro a S
                    refine l_pure S (p_pick_f rfl bc40 rfl) rfl rfl rfl ?_; clear S a; intro a S
                    refine l_pure S (p_assign rfl) rfl rfl rfl ?_; clear S a; intro a S
                    refine l_nil ?_
                    refine e_then ?_
                    refine c_cond (b := true) S rfl (fun _ => ?_) (fun h => by cases h)
                    refine c_region ?_
                    refine l_pure S (p_move rfl) rfl rfl rfl ?_; clear S a; intro a S
                    refine l_pure S (p_move rfl) rfl rfl rfl ?_; clear S a; intro a S
                    refine l_pure S (p_move rfl) rfl rfl rfl ?_; clear S a; intro a S
                    have hqx : qr s p = [92, 120] ++ hexl 2 (s.get! p).toNat := by
                      first
                      | exact qr_low hR (by omega)
                      | exact qr_bad hR (by omega) ((dec_bad (hR.trans (by omega))).2 (by omega))
                    refine l_pure S (p_index rfl rfl (fun w => ix_string Tryd.underlying9 (by omega) (by omega))) rfl rfl rfl ?_; clear S a; intro a S
                    rw [bt_get hlt] at S
                    refine l_pure S (p_conv rfl (fun w => cv_int (Tryd.underlying5) (Tryd.underlying117) (r := (((s.get! p).toNat : Nat) : Int)) (by rw [IntKind.wrap_u32]; omega))) rfl rfl rfl ?_; clear S a; intro a S
                    refine l_call S rfl rfl Tryd.func51 rfl rfl (hex_ _ (s.get! p).toNat 2 (by decide)) rfl rfl rfl ?_
                    rintro e w ⟨rfl, hb⟩
                    refine ⟨_, rfl, ?_⟩; clear S a; intro a S
                    replace H := H.later hb; clear hb
                    refine l_pure S (p_saddL ([92, 120]) ((hexl 2 (s.get! p).toNat)) rfl rfl rfl rfl (by simp only [List.length_append, List.length_cons, List.length_nil, hexl_len]; omega)) rfl rfl rfl ?_; clear S a; intro a S
                    refine l_pure S (p_saddL (([34] ++ dn)) (([92, 120] ++ (hexl 2 (s.get! p).toNat))) rfl rfl rfl rfl (by simp only [List.length_append, List.length_cons, List.length_nil, hexl_len]; omega)) rfl rfl rfl ?_; clear S a; intro a S
                    have hq : qr s p = ([92, 120] ++ (hexl 2 (s.get! p).toNat)) := hqx
                    rw [← hq, List.append_assoc [34] dn (qr s p)] at S
                    refine l_pure S (p_assign rfl) rfl rfl rfl ?_; clear S a; intro a S
                    refine l_nil ?_
                    refine e_in 2 ?_
                    refine e_in 1 ?_
                    refine e_then ?_
                    exact ⟨⟨p + (Utf8.decode s p).2, dn ++ qr s p⟩, ⟨S.only ⟨rfl, rfl, rfl, trivial⟩, H, ⟨by omega, by rw [List.append_assoc, ← qt_step hlt]; exact hdn⟩⟩, (show s.size - (p + (Utf8.decode s p).2) < s.size - p by omega)⟩
                · skip
                  have c44 := bc44
                  have c44 := ne_of_beq_false c44
                  refine l_off S rfl rfl rfl rfl bc44 rfl rfl ?_; clear S a; intro a S
                  refine l_off S rfl rfl rfl rfl bc44 rfl rfl ?_; clear S a; intro a S
                  refine l_off S rfl rfl rfl rfl bc44 rfl rfl ?_; clear S a; intro a S
                  refine l_off S rfl rfl rfl rfl bc44 rfl rfl ?_; clear S a; intro a S
                  refine l_off S rfl rfl rfl rfl bc44 rfl rfl ?_; clear S a; intro a S
                  refine l_off S rfl rfl rfl rfl bc44 rfl rfl ?_; clear S a; intro a S
                  refine l_offU S rfl rfl rfl rfl rfl rfl ?_; clear S a; intro a S
                  refine l_offU S rfl rfl rfl rfl rfl rfl ?_; clear S a; intro a S
                  refine l_offU S rfl rfl rfl rfl rfl rfl ?_; clear S a; intro a S
                  refine l_offU S rfl rfl rfl rfl rfl rfl ?_; clear S a; intro a S
                  refine l_offU S rfl rfl rfl rfl rfl rfl ?_; clear S a; intro a S
                  refine l_offU S rfl rfl rfl rfl rfl rfl ?_; clear S a; intro a S
                  refine l_off S rfl rfl rfl rfl bc44 rfl rfl ?_; clear S a; intro a S
                  refine l_off S rfl rfl rfl rfl bc44 rfl rfl ?_; clear S a; intro a S
                  refine l_on S rfl rfl rfl rfl bc40 ?_
                  refine l_pure S (p_pick_f rfl bc44 rfl) rfl rfl rfl ?_; clear S a; intro a S
                  refine l_pure S (p_pick_f rfl bc40 rfl) rfl rfl rfl ?_; clear S a; intro a S
                  refine l_pure S (p_assign rfl) rfl rfl rfl ?_; clear S a; intro a S
                  refine l_nil ?_
                  refine e_then ?_
                  refine c_cond (b := false) S rfl (fun h => by cases h) (fun _ => ?_)
                  refine wp_seq ?_
                  refine c_region ?_
                  refine l_pure S (p_move rfl) rfl rfl rfl ?_; clear S a; intro a S
                  refine l_pure S (p_lss rfl rfl) rfl rfl rfl ?_; clear S a; intro a S
                  refine l_pure S (p_assign rfl) rfl rfl rfl ?_; clear S a; intro a S
                  refine l_nil ?_
                  refine e_then ?_
                  refine c_cond S rfl (fun bc58 => ?_) (fun bc58 => ?_)
                  · skip
                    have c58 := bc58
                    have c58 := of_decide_eq_true c58
                    have hnb : ¬ (R = 65533 ∧ (Utf8.decode s p).2 = 1) := by
                      rintro ⟨h1, h2⟩
                      have h3 := (dec_bad (hR.trans h1)).1 h2
                      omega
                    refine c_region ?_
                    refine l_pure S (p_move rfl) rfl rfl rfl ?_; clear S a; intro a S
                    refine l_pure S (p_move rfl) rfl rfl rfl ?_; clear S a; intro a S
                    refine l_pure S (p_conv rfl (fun w => cv_int (Tryd.underlying21) (Tryd.underlying117) (r := (R : Int)) (by rw [IntKind.wrap_u32]; omega))) rfl rfl rfl ?_; clear S a; intro a S
                    refine l_call S rfl rfl Tryd.func51 rfl rfl (hex_ _ R 4 (by decide)) rfl rfl rfl ?_
                    rintro e w ⟨rfl, hb⟩
                    refine ⟨_, rfl, ?_⟩; clear S a; intro a S
                    replace H := H.later hb; clear hb
                    refine l_pure S (p_saddL ([92, 117]) ((hexl 4 R)) rfl rfl rfl rfl (by simp only [List.length_append, List.length_cons, List.length_nil, hexl_len]; omega)) rfl rfl rfl ?_; clear S a; intro a S
                    refine l_pure S (p_saddL (([34] ++ dn)) (([92, 117] ++ (hexl 4 R))) rfl rfl rfl rfl (by simp only [List.length_append, List.length_cons, List.length_nil, hexl_len]; omega)) rfl rfl rfl ?_; clear S a; intro a S
                    have hq : qr s p = ([92, 117] ++ (hexl 4 R)) := by rw [qr_esc hR hnb, esc_u (by omega)]
                    rw [← hq, List.append_assoc [34] dn (qr s p)] at S
                    refine l_pure S (p_assign rfl) rfl rfl rfl ?_; clear S a; intro a S
                    refine l_nil ?_
                    refine e_in 2 ?_
                    refine e_in 1 ?_
                    refine e_then ?_
                    exact ⟨⟨p + (Utf8.decode s p).2, dn ++ qr s p⟩, ⟨S.only ⟨rfl, rfl, rfl, trivial⟩, H, ⟨by omega, by rw [List.append_assoc, ← qt_step hlt]; exact hdn⟩⟩, (show s.size - (p + (Utf8.decode s p).2) < s.size - p by omega)⟩
                  · skip
                    have c58 := bc58
                    have c58 := of_decide_eq_false c58
                    have hnb : ¬ (R = 65533 ∧ (Utf8.decode s p).2 = 1) := by
                      rintro ⟨h1, h2⟩
                      have h3 := (dec_bad (hR.trans h1)).1 h2
                      omega
                    refine c_region ?_
                    refine l_pure S (p_move rfl) rfl rfl rfl ?_; clear S a; intro a S
                    refine l_pure S (p_move rfl) rfl rfl rfl ?_; clear S a; intro a S
                    refine l_pure S (p_conv rfl (fun w => cv_int (Tryd.underlying21) (Tryd.underlying117) (r := (R : Int)) (by rw [IntKind.wrap_u32]; omega))) rfl rfl rfl ?_; clear S a; intro a S
                    refine l_call S rfl rfl Tryd.func51 rfl rfl (hex_ _ R 8 (by decide)) rfl rfl rfl ?_
                    rintro e w ⟨rfl, hb⟩
                    refine ⟨_, rfl, ?_⟩; clear S a; intro a S
                    replace H := H.later hb; clear hb
                    refine l_pure S (p_saddL ([92, 85]) ((hexl 8 R)) rfl rfl rfl rfl (by simp only [List.length_append, List.length_cons, List.length_nil, hexl_len]; omega)) rfl rfl rfl ?_; clear S a; intro a S
                    refine l_pure S (p_saddL (([34] ++ dn)) (([92, 85] ++ (hexl 8 R))) rfl rfl rfl rfl (by simp only [List.length_append, List.length_cons, List.length_nil, hexl_len]; omega)) rfl rfl rfl ?_; clear S a; intro a S
                    have hq : qr s p = ([92, 85] ++ (hexl 8 R)) := by rw [qr_esc hR hnb, esc_U (by omega)]
                    rw [← hq, List.append_assoc [34] dn (qr s p)] at S
                    refine l_pure S (p_assign rfl) rfl rfl rfl ?_; clear S a; intro a S
                    refine l_nil ?_
                    refine e_in 2 ?_
                    refine e_in 1 ?_
                    refine e_then ?_
                    exact ⟨⟨p + (Utf8.decode s p).2, dn ++ qr s p⟩, ⟨S.only ⟨rfl, rfl, rfl, trivial⟩, H, ⟨by omega, by rw [List.append_assoc, ← qt_step hlt]; exact hdn⟩⟩, (show s.size - (p + (Utf8.decode s p).2) < s.size - p by omega)⟩
        · skip
          have c10 := bc10
          have c10 := of_decide_eq_false c10
          refine l_off S rfl rfl rfl rfl bc10 rfl rfl ?_; clear S a; intro a S
          refine l_off S rfl rfl rfl rfl bc10 rfl rfl ?_; clear S a; intro a S
          refine l_pure S (p_pick_f rfl bc10 rfl) rfl rfl rfl ?_; clear S a; intro a S
          refine l_pure S (p_assign rfl) rfl rfl rfl ?_; clear S a; intro a S
          refine l_nil ?_
          refine e_then ?_
          refine c_cond (b := false) S rfl (fun h => by cases h) (fun _ => ?_)
          refine wp_seq ?_
          refine c_region ?_
          refine l_pure S (p_move rfl) rfl rfl rfl ?_; clear S a; intro a S
          refine l_pure S (p_geq rfl rfl) rfl rfl rfl ?_; clear S a; intro a S
          refine l_pure S (p_move rfl) rfl rfl rfl ?_; clear S a; intro a S
          refine l_split (S.of 44 rfl) (fun bc62 => ?_) (fun bc62 => ?_)
          · skip
            have c62 := bc62
            have c62 := of_decide_eq_true c62
            refine l_on S rfl rfl rfl rfl bc62 ?_
            refine l_pure S (p_move rfl) rfl rfl rfl ?_; clear S a; intro a S
            refine l_on S rfl rfl rfl rfl bc62 ?_
            refine l_pure S (p_leq rfl rfl) rfl rfl rfl ?_; clear S a; intro a S
            refine l_pure S (p_pick_t rfl bc62 rfl) rfl rfl rfl ?_; clear S a; intro a S
            refine l_pure S (p_assign rfl) rfl rfl rfl ?_; clear S a; intro a S
            refine l_nil ?_
            refine e_then ?_
            refine c_cond S rfl (fun bc64 => ?_) (fun bc64 => ?_)
            · skip
              have c64 := bc64
              have c64 := of_decide_eq_true c64
              refine c_region ?_
              refine l_pure S (p_move rfl) rfl rfl rfl ?_; clear S a; intro a S
              refine l_pure S (p_move rfl) rfl rfl rfl ?_; clear S a; intro a S
              refine l_pure S (p_sub (r := (R : Int) - 7) rfl rfl (IntWalk.i32_in _ (by omega))) rfl rfl rfl ?_; clear S a; intro a S
              obtain ⟨kA, hkA, hbA, heA⟩ := bt_A (r := R) (by omega)
              refine l_pure S (p_index rfl rfl (fun w => ix_string Tryd.underlying9 (by omega) (show _ < ((7 : Nat) : Int) by omega))) rfl rfl rfl ?_; clear S a; intro a S
              rw [hbA] at S
              refine l_pure S (p_conv rfl (fun w => cv_rune (r := kA) Tryd.underlying5 Tryd.underlying9 (by omega))) rfl rfl rfl ?_; clear S a; intro a S
              refine l_pure S (p_saddL ([92]) ([(kA : Int)]) rfl rfl rfl rfl (by simp only [List.length_append, List.length_cons, List.length_nil, hexl_len]; omega)) rfl rfl rfl ?_; clear S a; intro a S
              refine l_pure S (p_saddL (([34] ++ dn)) (([92] ++ [(kA : Int)])) rfl rfl rfl rfl (by simp only [List.length_append, List.length_cons, List.length_nil, hexl_len]; omega)) rfl rfl rfl ?_; clear S a; intro a S
              have hq : qr s p = ([92] ++ [(kA : Int)]) := by rw [qr_esc hR (by omega), esc_a (by omega), heA]; rfl
              rw [← hq, List.append_assoc [34] dn (qr s p)] at S
              refine l_pure S (p_assign rfl) rfl rfl rfl ?_; clear S a; intro a S
              refine l_nil ?_
              refine e_in 2 ?_
              refine e_in 1 ?_
              refine e_then ?_
              exact ⟨⟨p + (Utf8.decode s p).2, dn ++ qr s p⟩, ⟨S.only ⟨rfl, rfl, rfl, trivial⟩, H, ⟨by omega, by rw [List.append_assoc, ← qt_step hlt]; exact hdn⟩⟩, (show s.size - (p + (Utf8.decode s p).2) < s.size - p by omega)⟩
            · skip
              have c64 := bc64
              have c64 := of_decide_eq_false c64
              refine wp_seq ?_
              refine c_region ?_
              refine l_pure S (p_move rfl) rfl rfl rfl ?_; clear S a; intro a S
              refine l_pure S (p_lss rfl rfl) rfl rfl rfl ?_; clear S a; intro a S
              refine l_pure S (p_move rfl) rfl rfl rfl ?_; clear S a; intro a S
              refine l_split (S.of 58 rfl) (fun bc66 => ?_) (fun bc66 => ?_)
              · skip
                have c66 := bc66
                have c66 := of_decide_eq_true c66
                refine l_off S rfl rfl rfl rfl bc66 rfl rfl ?_; clear S a; intro a S
                refine l_off S rfl rfl rfl rfl bc66 rfl rfl ?_; clear S a; intro a S
                refine l_off S rfl rfl rfl rfl bc66 rfl rfl ?_; clear S a; intro a S
                refine l_offU S rfl rfl rfl rfl rfl rfl ?_; clear S a; intro a S
                refine l_offU S rfl rfl rfl rfl rfl rfl ?_; clear S a; intro a S
                refine l_offU S rfl rfl rfl rfl rfl rfl ?_; clear S a; intro a S
                refine l_offU S rfl rfl rfl rfl rfl rfl ?_; clear S a; intro a S
                refine l_offU S rfl rfl rfl rfl rfl rfl ?_; clear S a; intro a S
                refine l_offU S rfl rfl rfl rfl rfl rfl ?_; clear S a; intro a S
                refine l_offU S rfl rfl rfl rfl rfl rfl ?_; clear S a; intro a S
                refine l_offU S rfl rfl rfl rfl rfl rfl ?_; clear S a; intro a S
                refine l_offU S rfl rfl rfl rfl rfl rfl ?_; clear S a; intro a S
                refine l_offU S rfl rfl rfl rfl rfl rfl ?_; clear S a; intro a S
                refine l_offU S rfl rfl rfl rfl rfl rfl ?_; clear S a; intro a S
                refine l_offU S rfl rfl rfl rfl rfl rfl ?_; clear S a; intro a S
                refine l_offU S rfl rfl rfl rfl rfl rfl ?_; clear S a; intro a S
                refine l_offU S rfl rfl rfl rfl rfl rfl ?_; clear S a; intro a S
                refine l_off S rfl rfl rfl rfl bc66 rfl rfl ?_; clear S a; intro a S
                refine l_pure S (p_pick_t rfl bc66 rfl) rfl rfl rfl ?_; clear S a; intro a S
                refine l_pure S (p_assign rfl) rfl rfl rfl ?_; clear S a; intro a S
                refine l_nil ?_
                refine e_then ?_
                refine c_cond (b := true) S rfl (fun _ => ?_) (fun h => by cases h)
                refine c_region ?_
                refine l_pure S (p_move rfl) rfl rfl rfl ?_; clear S a; intro a S
                refine l_pure S (p_move rfl) rfl rfl rfl ?_; clear S a; intro a S
                refine l_pure S (p_move rfl) rfl rfl rfl ?_; clear S a; intro a S
                have hqx : qr s p = [92, 120] ++ hexl 2 (s.get! p).toNat := by
                  first
                  | exact qr_low hR (by omega)
                  | exact qr_bad hR (by omega) ((dec_bad (hR.trans (by omega))).2 (by omega))
                refine l_pure S (p_index rfl rfl (fun w => ix_string Tryd.underlying9 (by omega) (by omega))) rfl rfl rfl ?_; clear S a; intro a S
                rw [bt_get hlt] at S
                refine l_pure S (p_conv rfl (fun w => cv_int (Tryd.underlying5) (Tryd.underlying117) (r := (((s.get! p).toNat : Nat) : Int)) (by rw [IntKind.wrap_u32]; omega))) rfl rfl rfl ?_; clear S a; intro a S
                refine l_call S rfl rfl Tryd.func51 rfl rfl (hex_ _ (s.get! p).toNat 2 (by decide)) rfl rfl rfl ?_
                rintro e w ⟨rfl, hb⟩
                refine ⟨_, rfl, ?_⟩; clear S a; intro a S
                replace H := H.later hb; clear hb
                refine l_pure S (p_saddL ([92, 120]) ((hexl 2 (s.get! p).toNat)) rfl rfl rfl rfl (by simp only [List.length_append, List.length_cons, List.length_nil, hexl_len]; omega)) rfl rfl rfl ?_; clear S a; intro a S
                refine l_pure S (p_saddL (([34] ++ dn)) (([92, 120] ++ (hexl 2 (s.get! p).toNat))) rfl rfl rfl rfl (by simp only [List.length_append, List.length_cons, List.length_nil, hexl_len]; omega)) rfl rfl rfl ?_; clear S a; intro a S
                have hq : qr s p = ([92, 120] ++ (hexl 2 (s.get! p).toNat)) := hqx
                rw [← hq, List.append_assoc [34] dn (qr s p)] at S
                refine l_pure S (p_assign rfl) rfl rfl rfl ?_; clear S a; intro a S
                refine l_nil ?_
                refine e_in 2 ?_
                refine e_in 1 ?_
                refine e_then ?_
                exact ⟨⟨p + (Utf8.decode s p).2, dn ++ qr s p⟩, ⟨S.only ⟨rfl, rfl, rfl, trivial⟩, H, ⟨by omega, by rw [List.append_assoc, ← qt_step hlt]; exact hdn⟩⟩, (show s.size - (p + (Utf8.decode s p).2) < s.size - p by omega)⟩
              · skip
                have c66 := bc66
                have c66 := of_decide_eq_false c66
                refine l_on S rfl rfl rfl rfl bc66 ?_
                refine l_pure S (p_move rfl) rfl rfl rfl ?_; clear S a; intro a S
                refine l_on S rfl rfl rfl rfl bc66 ?_
                refine l_pure S (p_eql rfl rfl) rfl rfl rfl ?_; clear S a; intro a S
                refine l_on S rfl rfl rfl rfl bc66 ?_
                refine l_pure S (p_move rfl) rfl rfl rfl ?_; clear S a; intro a S
                refine l_split (S.of 61 rfl) (fun bc70 => ?_) (fun bc70 => ?_)
                · skip
                  have c70 := bc70
                  have c70 := eq_of_beq c70
                  refine l_on S rfl rfl rfl rfl bc70 ?_
                  refine l_pure S (p_move rfl) rfl rfl rfl ?_; clear S a; intro a S
                  refine l_on S rfl rfl rfl rfl bc70 ?_
                  refine l_pure S (p_add rfl rfl (nat_add (x := p) (y := 2) (by omega))) rfl rfl rfl ?_; clear S a; intro a S
                  refine l_on S rfl rfl rfl rfl bc70 ?_
                  refine l_pure S (p_move rfl) rfl rfl rfl ?_; clear S a; intro a S
                  refine l_on S rfl rfl rfl rfl bc70 ?_
                  refine l_pure S (p_lens Tryd.underlying9 rfl) rfl rfl rfl ?_; clear S a; intro a S
                  refine l_on S rfl rfl rfl rfl bc70 ?_
                  refine l_pure S (p_lss rfl rfl) rfl rfl rfl ?_; clear S a; intro a S
                  refine l_on S rfl rfl rfl rfl bc70 ?_
                  refine l_pure S (p_move rfl) rfl rfl rfl ?_; clear S a; intro a S
                  refine l_split (S.of 67 rfl) (fun bc72 => ?_) (fun bc72 => ?_)
                  · skip
                    have c72 := bc72
                    have c72 := of_decide_eq_true c72
                    refine l_on S rfl rfl rfl rfl bc72 ?_
                    refine l_pure S (p_move rfl) rfl rfl rfl ?_; clear S a; intro a S
                    refine l_on S rfl rfl rfl rfl bc72 ?_
                    refine l_pure S (p_move rfl) rfl rfl rfl ?_; clear S a; intro a S
                    refine l_on S rfl rfl rfl rfl bc72 ?_
                    refine l_pure S (p_move rfl) rfl rfl rfl ?_; clear S a; intro a S
                    refine l_on S rfl rfl rfl rfl bc72 ?_
                    refine l_pure S (p_add rfl rfl (nat_add (x := p) (y := 3) (by omega))) rfl rfl rfl ?_; clear S a; intro a S
                    refine l_on S rfl rfl rfl rfl bc72 ?_
                    refine l_pure S (p_slice rfl (o_some rfl) (o_some rfl) (fun _ _ => o_none) (fun w => sl_strN (m := p) (m' := p + 3) Tryd.underlying9 rfl rfl (by omega) (by omega))) rfl rfl rfl ?_; clear S a; intro a S
                    refine l_on S rfl rfl rfl rfl bc72 ?_
                    refine l_pure S (p_seql rfl rfl) rfl rfl rfl ?_; clear S a; intro a S
                    rw [lit3 (by omega)] at S
                    refine l_on S rfl rfl rfl rfl bc70 ?_
                    refine l_pure S (p_pick_t rfl bc72 rfl) rfl rfl rfl ?_; clear S a; intro a S
                    refine l_on S rfl rfl rfl rfl bc70 ?_
                    refine l_pure S (p_not rfl) rfl rfl rfl ?_; clear S a; intro a S
                    refine l_on S rfl rfl rfl rfl bc66 ?_
                    refine l_pure S (p_pick_t rfl bc70 rfl) rfl rfl rfl ?_; clear S a; intro a S
                    refine l_pure S (p_pick_f rfl bc66 rfl) rfl rfl rfl ?_; clear S a; intro a S
                    refine l_pure S (p_assign rfl) rfl rfl rfl ?_; clear S a; intro a S
                    refine l_nil ?_
                    refine e_then ?_
                    refine c_cond S rfl (fun bc75 => ?_) (fun bc75 => ?_)
                    · skip
                      have c75 := bc75
                      replace c75 := not_eq_true_ c75
                      have c75 := of_decide_eq_false c75
                      refine c_region ?_
                      refine l_pure S (p_move rfl) rfl rfl rfl ?_; clear S a; intro a S
                      refine l_pure S (p_move rfl) rfl rfl rfl ?_; clear S a; intro a S
                      refine l_pure S (p_move rfl) rfl rfl rfl ?_; clear S a; intro a S
                      have hqx : qr s p = [92, 120] ++ hexl 2 (s.get! p).toNat := by
                        first
                        | exact qr_low hR (by omega)
                        | exact qr_bad hR (by omega) ((dec_bad (hR.trans (by omega))).2 (by omega))
                      refine l_pure S (p_index rfl rfl (fun w => ix_string Tryd.underlying9 (by omega) (by omega))) rfl rfl rfl ?_; clear S a; intro a S
                      rw [bt_get hlt] at S
                      refine l_pure S (p_conv rfl (fun w => cv_int (Tryd.underlying5) (Tryd.underlying117) (r := (((s.get! p).toNat : Nat) : Int)) (by rw [IntKind.wrap_u32]; omega))) rfl rfl rfl ?_; clear S a; intro a S
                      refine l_call S rfl rfl Tryd.func51 rfl rfl (hex_ _ (s.get! p).toNat 2 (by decide)) rfl rfl rfl ?_
                      rintro e w ⟨rfl, hb⟩
                      refine ⟨_, rfl, ?_⟩; clear S a; intro a S
                      replace H := H.later hb; clear hb
                      refine l_pure S (p_saddL ([92, 120]) ((hexl 2 (s.get! p).toNat)) rfl rfl rfl rfl (by simp only [List.length_append, List.length_cons, List.length_nil, hexl_len]; omega)) rfl rfl rfl ?_; clear S a; intro a S
                      refine l_pure S (p_saddL (([34] ++ dn)) (([92, 120] ++ (hexl 2 (s.get! p).toNat))) rfl rfl rfl rfl (by simp only [List.length_append, List.length_cons, List.length_nil, hexl_len]; omega)) rfl rfl rfl ?_; clear S a; intro a S
                      have hq : qr s p = ([92, 120] ++ (hexl 2 (s.get! p).toNat)) := hqx
                      rw [← hq, List.append_assoc [34] dn (qr s p)] at S
                      refine l_pure S (p_assign rfl) rfl rfl rfl ?_; clear S a; intro a S
                      refine l_nil ?_
                      refine e_in 2 ?_
                      refine e_in 1 ?_
                      refine e_then ?_
                      exact ⟨⟨p + (Utf8.decode s p).2, dn ++ qr s p⟩, ⟨S.only ⟨rfl, rfl, rfl, trivial⟩, H, ⟨by omega, by rw [List.append_assoc, ← qt_step hlt]; exact hdn⟩⟩, (show s.size - (p + (Utf8.decode s p).2) < s.size - p by omega)⟩
                    · skip
                      have c75 := bc75
                      replace c75 := not_eq_false_ c75
                      have c75 := of_decide_eq_true c75
                      refine wp_seq ?_
                      refine c_region ?_
                      refine l_pure S (p_move rfl) rfl rfl rfl ?_; clear S a; intro a S
                      refine l_pure S (p_lss rfl rfl) rfl rfl rfl ?_; clear S a; intro a S
                      refine l_pure S (p_assign rfl) rfl rfl rfl ?_; clear S a; intro a S
                      refine l_nil ?_
                      refine e_then ?_
                      refine c_cond S rfl (fun bc77 => ?_) (fun bc77 => ?_)
                      · skip
                        have c77 := bc77
                        have c77 := of_decide_eq_true c77
                        have hnb : ¬ (R = 65533 ∧ (Utf8.decode s p).2 = 1) := by
                          rintro ⟨h1, h2⟩
                          have h3 := (dec_bad (hR.trans h1)).1 h2
                          omega
                        refine c_region ?_
                        refine l_pure S (p_move rfl) rfl rfl rfl ?_; clear S a; intro a S
                        refine l_pure S (p_move rfl) rfl rfl rfl ?_; clear S a; intro a S
                        refine l_pure S (p_conv rfl (fun w => cv_int (Tryd.underlying21) (Tryd.underlying117) (r := (R : Int)) (by rw [IntKind.wrap_u32]; omega))) rfl rfl rfl ?_; clear S a; intro a S
                        refine l_call S rfl rfl Tryd.func51 rfl rfl (hex_ _ R 4 (by decide)) rfl rfl rfl ?_
                        rintro e w ⟨rfl, hb⟩
                        refine ⟨_, rfl, ?_⟩; clear S a; intro a S
                        replace H := H.later hb; clear hb
                        refine l_pure S (p_saddL ([92, 117]) ((hexl 4 R)) rfl rfl rfl rfl (by simp only [List.length_append, List.length_cons, List.length_nil, hexl_len]; omega)) rfl rfl rfl ?_; clear S a; intro a S
                        refine l_pure S (p_saddL (([34] ++ dn)) (([92, 117] ++ (hexl 4 R))) rfl rfl rfl rfl (by simp only [List.length_append, List.length_cons, List.length_nil, hexl_len]; omega)) rfl rfl rfl ?_; clear S a; intro a S
                        have hq : qr s p = ([92, 117] ++ (hexl 4 R)) := by rw [qr_esc hR hnb, esc_u (by omega)]
                        rw [← hq, List.append_assoc [34] dn (qr s p)] at S
                        refine l_pure S (p_assign rfl) rfl rfl rfl ?_; clear S a; intro a S
                        refine l_nil ?_
                        refine e_in 2 ?_
                        refine e_in 1 ?_
                        refine e_then ?_
                        exact ⟨⟨p + (Utf8.decode s p).2, dn ++ qr s p⟩, ⟨S.only ⟨rfl, rfl, rfl, trivial⟩, H, ⟨by omega, by rw [List.append_assoc, ← qt_step hlt]; exact hdn⟩⟩, (show s.size - (p + (Utf8.decode s p).2) < s.size - p by omega)⟩
                      · skip
                        have c77 := bc77
                        have c77 := of_decide_eq_false c77
                        have hnb : ¬ (R = 65533 ∧ (Utf8.decode s p).2 = 1) := by
                          rintro ⟨h1, h2⟩
                          have h3 := (dec_bad (hR.trans h1)).1 h2
                          omega
                        refine c_region ?_
                        refine l_pure S (p_move rfl) rfl rfl rfl ?_; clear S a; intro a S
                        refine l_pure S (p_move rfl) rfl rfl rfl ?_; clear S a; intro a S
                        refine l_pure S (p_conv rfl (fun w => cv_int (Tryd.underlying21) (Tryd.underlying117) (r := (R : Int)) (by rw [IntKind.wrap_u32]; omega))) rfl rfl rfl ?_; clear S a; intro a S
                        refine l_call S rfl rfl Tryd.func51 rfl rfl (hex_ _ R 8 (by decide)) rfl rfl rfl ?_
                        rintro e w ⟨rfl, hb⟩
                        refine ⟨_, rfl, ?_⟩; clear S a; intro a S
                        replace H := H.later hb; clear hb
                        refine l_pure S (p_saddL ([92, 85]) ((hexl 8 R)) rfl rfl rfl rfl (by simp only [List.length_append, List.length_cons, List.length_nil, hexl_len]; omega)) rfl rfl rfl ?_; clear S a; intro a S
                        refine l_pure S (p_saddL (([34] ++ dn)) (([92, 85] ++ (hexl 8 R))) rfl rfl rfl rfl (by simp only [List.length_append, List.length_cons, List.length_nil, hexl_len]; omega)) rfl rfl rfl ?_; clear S a; intro a S
                        have hq : qr s p = ([92, 85] ++ (hexl 8 R)) := by rw [qr_esc hR hnb, esc_U (by omega)]
                        rw [← hq, List.append_assoc [34] dn (qr s p)] at S
                        refine l_pure S (p_assign rfl) rfl rfl rfl ?_; clear S a; intro a S
                        refine l_nil ?_
                        refine e_in 2 ?_
                        refine e_in 1 ?_
                        refine e_then ?_
                        exact ⟨⟨p + (Utf8.decode s p).2, dn ++ qr s p⟩, ⟨S.only ⟨rfl, rfl, rfl, trivial⟩, H, ⟨by omega, by rw [List.append_assoc, ← qt_step hlt]; exact hdn⟩⟩, (show s.size - (p + (Utf8.decode s p).2) < s.size - p by omega)⟩
                  · skip
                    have c72 := bc72
                    have c72 := of_decide_eq_false c72
                    refine l_off S rfl rfl rfl rfl bc72 rfl rfl ?_; clear S a; intro a S
                    refine l_off S rfl rfl rfl rfl bc72 rfl rfl ?_; clear S a; intro a S
                    refine l_off S rfl rfl rfl rfl bc72 rfl rfl ?_; clear S a; intro a S
                    refine l_off S rfl rfl rfl rfl bc72 rfl rfl ?_; clear S a; intro a S
                    refine l_off S rfl rfl rfl rfl bc72 rfl rfl ?_; clear S a; intro a S
                    refine l_off S rfl rfl rfl rfl bc72 rfl rfl ?_; clear S a; intro a S
                    refine l_on S rfl rfl rfl rfl bc70 ?_
                    refine l_pure S (p_pick_f rfl bc72 rfl) rfl rfl rfl ?_; clear S a; intro a S
                    refine l_on S rfl rfl rfl rfl bc70 ?_
                    refine l_pure S (p_not rfl) rfl rfl rfl ?_; clear S a; intro a S
                    refine l_on S rfl rfl rfl rfl bc66 ?_
                    refine l_pure S (p_pick_t rfl bc70 rfl) rfl rfl rfl ?_; clear S a; intro a S
                    refine l_pure S (p_pick_f rfl bc66 rfl) rfl rfl rfl ?_; clear S a; intro a S
                    refine l_pure S (p_assign rfl) rfl rfl rfl ?_; clear S a; intro a S
                    refine l_nil ?_
                    refine e_then ?_
                    refine c_cond (b := true) S rfl (fun _ => ?_) (fun h => by cases h)
                    refine c_region ?_
                    refine l_pure S (p_move rfl) rfl rfl rfl ?_; clear S a; intro a S
                    refine l_pure S (p_move rfl) rfl rfl rfl ?_; clear S a; intro a S
                    refine l_pure S (p_move rfl) rfl rfl rfl ?_; clear S a; intro a S
                    have hqx : qr s p = [92, 120] ++ hexl 2 (s.get! p).toNat := by
                      first
                      | exact qr_low hR (by omega)
                      | exact qr_bad hR (by omega) ((dec_bad (hR.trans (by omega))).2 (by omega))
                    refine l_pure S (p_index rfl rfl (fun w => ix_string Tryd.underlying9 (by omega) (by omega))) rfl rfl rfl ?_; clear S a; intro a S
                    rw [bt_get hlt] at S
                    refine l_pure S (p_conv rfl (fun w => cv_int (Tryd.underlying5) (Tryd.underlying117) (r := (((s.get! p).toNat : Nat) : Int)) (by rw [IntKind.wrap_u32]; omega))) rfl rfl rfl ?_; clear S a; intro a S
                    refine l_call S rfl rfl Tryd.func51 rfl rfl (hex_ _ (s.get! p).toNat 2 (by decide)) rfl rfl rfl ?_
                    rintro e w ⟨rfl, hb⟩
                    refine ⟨_, rfl, ?_⟩; clear S a; intro a S
                    replace H := H.later hb; clear hb
                    refine l_pure S (p_saddL ([92, 120]) ((hexl 2 (s.get! p).toNat)) rfl rfl rfl rfl (by simp only [List.length_append, List.length_cons, List.length_nil, hexl_len]; omega)) rfl rfl rfl ?_; clear S a; intro a S
                    refine l_pure S (p_saddL (([34] ++ dn)) (([92, 120] ++ (hexl 2 (s.get! p).toNat))) rfl rfl rfl rfl (by simp only [List.length_append, List.length_cons, List.length_nil, hexl_len]; omega)) rfl rfl rfl ?_; clear S a; intro a S
                    have hq : qr s p = ([92, 120] ++ (hexl 2 (s.get! p).toNat)) := hqx
                    rw [← hq, List.append_assoc [34] dn (qr s p)] at S
                    refine l_pure S (p_assign rfl) rfl rfl rfl ?_; clear S a; intro a S
                    refine l_nil ?_
                    refine e_in 2 ?_
                    refine e_in 1 ?_
                    refine e_then ?_
                    exact ⟨⟨p + (Utf8.decode s p).2, dn ++ qr s p⟩, ⟨S.only ⟨rfl, rfl, rfl, trivial⟩, H, ⟨by omega, by rw [List.append_assoc, ← qt_step hlt]; exact hdn⟩⟩, (show s.size - (p + (Utf8.decode s p).2) < s.size - p by omega)⟩
                · skip
                  have c70 := bc70
                  have c70 := ne_of_beq_false c70
                  refine l_off S rfl rfl rfl rfl bc70 rfl rfl ?_; clear S a; intro a S
                  refine l_off S rfl rfl rfl rfl bc70 rfl rfl ?_; clear S a; intro a S
                  refine l_off S rfl rfl rfl rfl bc70 rfl rfl ?_; clear S a; intro a S
                  refine l_off S rfl rfl rfl rfl bc70 rfl rfl ?_; clear S a; intro a S
                  refine l_off S rfl rfl rfl rfl bc70 rfl rfl ?_; clear S a; intro a S
                  refine l_off S rfl rfl rfl rfl bc70 rfl rfl ?_; clear S a; intro a S
                  refine l_offU S rfl rfl rfl rfl rfl rfl ?_; clear S a; intro a S
                  refine l_offU S rfl rfl rfl rfl rfl rfl ?_; clear S a; intro a S
                  refine l_offU S rfl rfl rfl rfl rfl rfl ?_; clear S a; intro a S
                  refine l_offU S rfl rfl rfl rfl rfl rfl ?_; clear S a; intro a S
                  refine l_offU S rfl rfl rfl rfl rfl rfl ?_; clear S a; intro a S
                  refine l_offU S rfl rfl rfl rfl rfl rfl ?_; clear S a; intro a S
                  refine l_off S rfl rfl rfl rfl bc70 rfl rfl ?_; clear S a; intro a S
                  refine l_off S rfl rfl rfl rfl bc70 rfl rfl ?_; clear S a; intro a S
                  refine l_on S rfl rfl rfl rfl bc66 ?_
                  refine l_pure S (p_pick_f rfl bc70 rfl) rfl rfl rfl ?_; clear S a; intro a S
                  refine l_pure S (p_pick_f rfl bc66 rfl) rfl rfl rfl ?_; clear S a; intro a S
                  refine l_pure S (p_assign rfl) rfl rfl rfl ?_; clear S a; intro a S
                  refine l_nil ?_
                  refine e_then ?_
                  refine c_cond (b := false) S rfl (fun h => by cases h) (fun _ => ?_)
                  refine wp_seq ?_
                  refine c_region ?_
                  refine l_pure S (p_move rfl) rfl rfl rfl ?_; clear S a; intro a S
                  refine l_pure S (p_lss rfl rfl) rfl rfl rfl ?_; clear S a; intro a S
                  refine l_pure S (p_assign rfl) rfl rfl rfl ?_; clear S a; intro a S
                  refine l_nil ?_
                  refine e_then ?_
                  refine c_cond S rfl (fun bc84 => ?_) (fun bc84 => ?_)
                  · skip
                    have c84 := bc84
                    have c84 := of_decide_eq_true c84
                    have hnb : ¬ (R = 65533 ∧ (Utf8.decode s p).2 = 1) := by
                      rintro ⟨h1, h2⟩
                      have h3 := (dec_bad (hR.trans h1)).1 h2
                      omega
                    refine c_region ?_
                    refine l_pure S (p_move rfl) rfl rfl rfl ?_; clear S a; intro a S
                    refine l_pure S (p_move rfl) rfl rfl rfl ?_; clear S a; intro a S
                    refine l_pure S (p_conv rfl (fun w => cv_int (Tryd.underlying21) (Tryd.underlying117) (r := (R : Int)) (by rw [IntKind.wrap_u32]; omega))) rfl rfl rfl ?_; clear S a; intro a S
                    refine l_call S rfl rfl Tryd.func51 rfl rfl (hex_ _ R 4 (by decide)) rfl rfl rfl ?_
                    rintro e w ⟨rfl, hb⟩
                    refine ⟨_, rfl, ?_⟩; clear S a; intro a S
                    replace H := H.later hb; clear hb
                    refine l_pure S (p_saddL ([92, 117]) ((hexl 4 R)) rfl rfl rfl rfl (by simp only [List.length_append, List.length_cons, List.length_nil, hexl_len]; omega)) rfl rfl rfl ?_; clear S a; intro a S
                    refine l_pure S (p_saddL (([34] ++ dn)) (([92, 117] ++ (hexl 4 R))) rfl rfl rfl rfl (by simp only [List.length_append, List.length_cons, List.length_nil, hexl_len]; omega)) rfl rfl rfl ?_; clear S a; intro a S
                    have hq : qr s p = ([92, 117] ++ (hexl 4 R)) := by rw [qr_esc hR hnb, esc_u (by omega)]
                    rw [← hq, List.append_assoc [34] dn (qr s p)] at S
                    refine l_pure S (p_assign rfl) rfl rfl rfl ?_; clear S a; intro a S
                    refine l_nil ?_
                    refine e_in 2 ?_
                    refine e_in 1 ?_
                    refine e_then ?_
                    exact ⟨⟨p + (Utf8.decode s p).2, dn ++ qr s p⟩, ⟨S.only ⟨rfl, rfl, rfl, trivial⟩, H, ⟨by omega, by rw [List.append_assoc, ← qt_step hlt]; exact hdn⟩⟩, (show s.size - (p + (Utf8.decode s p).2) < s.size - p by omega)⟩
                  · skip
                    have c84 := bc84
                    have c84 := of_decide_eq_false c84
                    have hnb : ¬ (R = 65533 ∧ (Utf8.decode s p).2 = 1) := by
                      rintro ⟨h1, h2⟩
                      have h3 := (dec_bad (hR.trans h1)).1 h2
                      omega
                    refine c_region ?_
                    refine l_pure S (p_move rfl) rfl rfl rfl ?_; clear S a; intro a S
                    refine l_pure S (p_move rfl) rfl rfl rfl ?_; clear S a; intro a S
                    refine l_pure S (p_conv rfl (fun w => cv_int (Tryd.underlying21) (Tryd.underlying117) (r := (R : Int)) (by rw [IntKind.wrap_u32]; omega))) rfl rfl rfl ?_; clear S a; intro a S
                    refine l_call S rfl rfl Tryd.func51 rfl rfl (hex_ _ R 8 (by decide)) rfl rfl rfl ?_
                    rintro e w ⟨rfl, hb⟩
                    refine ⟨_, rfl, ?_⟩; clear S a; intro a S
                    replace H := H.later hb; clear hb
                    refine l_pure S (p_saddL ([92, 85]) ((hexl 8 R)) rfl rfl rfl rfl (by simp only [List.length_append, List.length_cons, List.length_nil, hexl_len]; omega)) rfl rfl rfl ?_; clear S a; intro a S
                    refine l_pure S (p_saddL (([34] ++ dn)) (([92, 85] ++ (hexl 8 R))) rfl rfl rfl rfl (by simp only [List.length_append, List.length_cons, List.length_nil, hexl_len]; omega)) rfl rfl rfl ?_; clear S a; intro a S
                    have hq : qr s p = ([92, 85] ++ (hexl 8 R)) := by rw [qr_esc hR hnb, esc_U (by omega)]
                    rw [← hq, List.append_assoc [34] dn (qr s p)] at S
                    refine l_pure S (p_assign rfl) rfl rfl rfl ?_; clear S a; intro a S
                    refine l_nil ?_
                    refine e_in 2 ?_
                    refine e_in 1 ?_
                    refine e_then ?_
                    exact ⟨⟨p + (Utf8.decode s p).2, dn ++ qr s p⟩, ⟨S.only ⟨rfl, rfl, rfl, trivial⟩, H, ⟨by omega, by rw [List.append_assoc, ← qt_step hlt]; exact hdn⟩⟩, (show s.size - (p + (Utf8.decode s p).2) < s.size - p by omega)⟩
          · skip
            have c62 := bc62
            have c62 := of_decide_eq_false c62
            refine l_off S rfl rfl rfl rfl bc62 rfl rfl ?_; clear S a; intro a S
            refine l_off S rfl rfl rfl rfl bc62 rfl rfl ?_; clear S a; intro a S
            refine l_pure S (p_pick_f rfl bc62 rfl) rfl rfl rfl ?_; clear S a; intro a S
            refine l_pure S (p_assign rfl) rfl rfl rfl ?_; clear S a; intro a S
            refine l_nil ?_
            refine e_then ?_
            refine c_cond (b := false) S rfl (fun h => by cases h) (fun _ => ?_)
            refine wp_seq ?_
            refine c_region ?_
            refine l_pure S (p_move rfl) rfl rfl rfl ?_; clear S a; intro a S
            refine l_pure S (p_lss rfl rfl) rfl rfl rfl ?_; clear S a; intro a S
            refine l_pure S (p_move rfl) rfl rfl rfl ?_; clear S a; intro a S
            refine l_split (S.of 58 rfl) (fun bc88 => ?_) (fun bc88 => ?_)
            · skip
              have c88 := bc88
              have c88 := of_decide_eq_true c88
              refine l_off S rfl rfl rfl rfl bc88 rfl rfl ?_; clear S a; intro a S
              refine l_off S rfl rfl rfl rfl bc88 rfl rfl ?_; clear S a; intro a S
              refine l_off S rfl rfl rfl rfl bc88 rfl rfl ?_; clear S a; intro a S
              refine l_offU S rfl rfl rfl rfl rfl rfl ?_; clear S a; intro a S
              refine l_offU S rfl rfl rfl rfl rfl rfl ?_; clear S a; intro a S
              refine l_offU S rfl rfl rfl rfl rfl rfl ?_; clear S a; intro a S
              refine l_offU S rfl rfl rfl rfl rfl rfl ?_; clear S a; intro a S
              refine l_offU S rfl rfl rfl rfl rfl rfl ?_; clear S a; intro a S
              refine l_offU S rfl rfl rfl rfl rfl rfl ?_; clear S a; intro a S
              refine l_offU S rfl rfl rfl rfl rfl rfl ?_; clear S a; intro a S
              refine l_offU S rfl rfl rfl rfl rfl rfl ?_; clear S a; intro a S
              refine l_offU S rfl rfl rfl rfl rfl rfl ?_; clear S a; intro a S
              refine l_offU S rfl rfl rfl rfl rfl rfl ?_; clear S a; intro a S
              refine l_offU S rfl rfl rfl rfl rfl rfl ?_; clear S a; intro a S
              refine l_offU S rfl rfl rfl rfl rfl rfl ?_; clear S a; intro a S
              refine l_offU S rfl rfl rfl rfl rfl rfl ?_; clear S a; intro a S
              refine l_offU S rfl rfl rfl rfl rfl rfl ?_; clear S a; intro a S
              refine l_off S rfl rfl rfl rfl bc88 rfl rfl ?_; clear S a; intro a S
              refine l_pure S (p_pick_t rfl bc88 rfl) rfl rfl rfl ?_; clear S a; intro a S
              refine l_pure S (p_assign rfl) rfl rfl rfl ?_; clear S a; intro a S
              refine l_nil ?_
              refine e_then ?_
              refine c_cond (b := true) S rfl (fun _ => ?_) (fun h => by cases h)
              refine c_region ?_
              refine l_pure S (p_move rfl) rfl rfl rfl ?_; clear S a; intro a S
              refine l_pure S (p_move rfl) rfl rfl rfl ?_; clear S a; intro a S
              refine l_pure S (p_move rfl) rfl rfl rfl ?_; clear S a; intro a S
              have hqx : qr s p = [92, 120] ++ hexl 2 (s.get! p).toNat := by
                first
                | exact qr_low hR (by omega)
                | exact qr_bad hR (by omega) ((dec_bad (hR.trans (by omega))).2 (by omega))
              refine l_pure S (p_index rfl rfl (fun w => ix_string Tryd.underlying9 (by omega) (by omega))) rfl rfl rfl ?_; clear S a; intro a S
              rw [bt_get hlt] at S
              refine l_pure S (p_conv rfl (fun w => cv_int (Tryd.underlying5) (Tryd.underlying117) (r := (((s.get! p).toNat : Nat) : Int)) (by rw [IntKind.wrap_u32]; omega))) rfl rfl rfl ?_; clear S a; intro a S
              refine l_call S rfl rfl Tryd.func51 rfl rfl (hex_ _ (s.get! p).toNat 2 (by decide)) rfl rfl rfl ?_
              rintro e w ⟨rfl, hb⟩
              refine ⟨_, rfl, ?_⟩; clear S a; intro a S
              replace H := H.later hb; clear hb
              refine l_pure S (p_saddL ([92, 120]) ((hexl 2 (s.get! p).toNat)) rfl rfl rfl rfl (by simp only [List.length_append, List.length_cons, List.length_nil, hexl_len]; omega)) rfl rfl rfl ?_; clear S a; intro a S
              refine l_pure S (p_saddL (([34] ++ dn)) (([92, 120] ++ (hexl 2 (s.get! p).toNat))) rfl rfl rfl rfl (by simp only [List.length_append, List.length_cons, List.length_nil, hexl_len]; omega)) rfl rfl rfl ?_; clear S a; intro a S
              have hq : qr s p = ([92, 120] ++ (hexl 2 (s.get! p).toNat)) := hqx
              rw [← hq, List.append_assoc [34] dn (qr s p)] at S
              refine l_pure S (p_assign rfl) rfl rfl rfl ?_; clear S a; intro a S
              refine l_nil ?_
              refine e_in 2 ?_
              refine e_in 1 ?_
              refine e_then ?_
              exact ⟨⟨p + (Utf8.decode s p).2, dn ++ qr s p⟩, ⟨S.only ⟨rfl, rfl, rfl, trivial⟩, H, ⟨by omega, by rw [List.append_assoc, ← qt_step hlt]; exact hdn⟩⟩, (show s.size - (p + (Utf8.decode s p).2) < s.size - p by omega)⟩
            · skip
              have c88 := bc88
              have c88 := of_decide_eq_false c88
              refine l_on S rfl rfl rfl rfl bc88 ?_
              refine l_pure S (p_move rfl) rfl rfl rfl ?_; clear S a; intro a S
              refine l_on S rfl rfl rfl rfl bc88 ?_
              refine l_pure S (p_eql rfl rfl) rfl rfl rfl ?_; clear S a; intro a S
              refine l_on S rfl rfl rfl rfl bc88 ?_
              refine l_pure S (p_move rfl) rfl rfl rfl ?_; clear S a; intro a S
              refine l_split (S.of 61 rfl) (fun bc92 => ?_) (fun bc92 => ?_)
              · skip
                have c92 := bc92
                have c92 := eq_of_beq c92
                refine l_on S rfl rfl rfl rfl bc92 ?_
                refine l_pure S (p_move rfl) rfl rfl rfl ?_; clear S a; intro a S
                refine l_on S rfl rfl rfl rfl bc92 ?_
                refine l_pure S (p_add rfl rfl (nat_add (x := p) (y := 2) (by omega))) rfl rfl rfl ?_; clear S a; intro a S
                refine l_on S rfl rfl rfl rfl bc92 ?_
                refine l_pure S (p_move rfl) rfl rfl rfl ?_; clear S a; intro a S
                refine l_on S rfl rfl rfl rfl bc92 ?_
                refine l_pure S (p_lens Tryd.underlying9 rfl) rfl rfl rfl ?_; clear S a; intro a S
                refine l_on S rfl rfl rfl rfl bc92 ?_
                refine l_pure S (p_lss rfl rfl) rfl rfl rfl ?_; clear S a; intro a S
                refine l_on S rfl rfl rfl rfl bc92 ?_
                refine l_pure S (p_move rfl) rfl rfl rfl ?_; clear S a; intro a S
                refine l_split (S.of 67 rfl) (fun bc94 => ?_) (fun bc94 => ?_)
                · skip
                  have c94 := bc94
                  have c94 := of_decide_eq_true c94
                  refine l_on S rfl rfl rfl rfl bc94 ?_
                  refine l_pure S (p_move rfl) rfl rfl rfl ?_; clear S a; intro a S
                  refine l_on S rfl rfl rfl rfl bc94 ?_
                  refine l_pure S (p_move rfl) rfl rfl rfl ?_; clear S a; intro a S
                  refine l_on S rfl rfl rfl rfl bc94 ?_
                  refine l_pure S (p_move rfl) rfl rfl rfl ?_; clear S a; intro a S
                  refine l_on S rfl rfl rfl rfl bc94 ?_
                  refine l_pure S (p_add rfl rfl (nat_add (x := p) (y := 3) (by omega))) rfl rfl rfl ?_; clear S a; intro a S
                  refine l_on S rfl rfl rfl rfl bc94 ?_
                  refine l_pure S (p_slice rfl (o_some rfl) (o_some rfl) (fun _ _ => o_none) (fun w => sl_strN (m := p) (m' := p + 3) Tryd.underlying9 rfl rfl (by omega) (by omega))) rfl rfl rfl ?_; clear S a; intro a S
                  refine l_on S rfl rfl rfl rfl bc94 ?_
                  refine l_pure S (p_seql rfl rfl) rfl rfl rfl ?_; clear S a; intro a S
                  rw [lit3 (by omega)] at S
                  refine l_on S rfl rfl rfl rfl bc92 ?_
                  refine l_pure S (p_pick_t rfl bc94 rfl) rfl rfl rfl ?_; clear S a; intro a S
                  refine l_on S rfl rfl rfl rfl bc92 ?_
                  refine l_pure S (p_not rfl) rfl rfl rfl ?_; clear S a; intro a S
                  refine l_on S rfl rfl rfl rfl bc88 ?_
                  refine l_pure S (p_pick_t rfl bc92 rfl) rfl rfl rfl ?_; clear S a; intro a S
                  refine l_pure S (p_pick_f rfl bc88 rfl) rfl rfl rfl ?_; clear S a; intro a S
                  refine l_pure S (p_assign rfl) rfl rfl rfl ?_; clear S a; intro a S
                  refine l_nil ?_
                  refine e_then ?_
                  refine c_cond S rfl (fun bc97 => ?_) (fun bc97 => ?_)
                  · skip
                    have c97 := bc97
                    replace c97 := not_eq_true_ c97
                    have c97 := of_decide_eq_false c97
                    refine c_region ?_
                    refine l_pure S (p_move rfl) rfl rfl rfl ?_; clear S a; intro a S
                    refine l_pure S (p_move rfl) rfl rfl rfl ?_; clear S a; intro a S
                    refine l_pure S (p_move rfl) rfl rfl rfl ?_; clear S a; intro a S
                    have hqx : qr s p = [92, 120] ++ hexl 2 (s.get! p).toNat := by
                      first
                      | exact qr_low hR (by omega)
                      | exact qr_bad hR (by omega) ((dec_bad (hR.trans (by omega))).2 (by omega))
                    refine l_pure S (p_index rfl rfl (fun w => ix_string Tryd.underlying9 (by omega) (by omega))) rfl rfl rfl ?_; clear S a; intro a S
                    rw [bt_get hlt] at S
                    refine l_pure S (p_conv rfl (fun w => cv_int (Tryd.underlying5) (Tryd.underlying117) (r := (((s.get! p).toNat : Nat) : Int)) (by rw [IntKind.wrap_u32]; omega))) rfl rfl rfl ?_; clear S a; intro a S
                    refine l_call S rfl rfl Tryd.func51 rfl rfl (hex_ _ (s.get! p).toNat 2 (by decide)) rfl rfl rfl ?_
                    rintro e w ⟨rfl, hb⟩
                    refine ⟨_, rfl, ?_⟩; clear S a; intro a S
                    replace H := H.later hb; clear hb
                    refine l_pure S (p_saddL ([92, 120]) ((hexl 2 (s.get! p).toNat)) rfl rfl rfl rfl (by simp only [List.length_append, List.length_cons, List.length_nil, hexl_len]; omega)) rfl rfl rfl ?_; clear S a; intro a S
                    refine l_pure S (p_saddL (([34] ++ dn)) (([92, 120] ++ (hexl 2 (s.get! p).toNat))) rfl rfl rfl rfl (by simp only [List.length_append, List.length_cons, List.length_nil, hexl_len]; omega)) rfl rfl rfl ?_; clear S a; intro a S
                    have hq : qr s p = ([92, 120] ++ (hexl 2 (s.get! p).toNat)) := hqx
                    rw [← hq, List.append_assoc [34] dn (qr s p)] at S
                    refine l_pure S (p_assign rfl) rfl rfl rfl ?_; clear S a; intro a S
                    refine l_nil ?_
                    refine e_in 2 ?_
                    refine e_in 1 ?_
                    refine e_then ?_
                    exact ⟨⟨p + (Utf8.decode s p).2, dn ++ qr s p⟩, ⟨S.only ⟨rfl, rfl, rfl, trivial⟩, H, ⟨by omega, by rw [List.append_assoc, ← qt_step hlt]; exact hdn⟩⟩, (show s.size - (p + (Utf8.decode s p).2) < s.size - p by omega)⟩
                  · skip
                    have c97 := bc97
                    replace c97 := not_eq_false_ c97
                    have c97 := of_decide_eq_true c97
                    refine wp_seq ?_
                    refine c_region ?_
                    refine l_pure S (p_move rfl) rfl rfl rfl ?_; clear S a; intro a S
                    refine l_pure S (p_lss rfl rfl) rfl rfl rfl ?_; clear S a; intro a S
                    refine l_pure S (p_assign rfl) rfl rfl rfl ?_; clear S a; intro a S
                    refine l_nil ?_
                    refine e_then ?_
                    refine c_cond S rfl (fun bc99 => ?_) (fun bc99 => ?_)
                    · skip
                      have c99 := bc99
                      have c99 := of_decide_eq_true c99
                      have hnb : ¬ (R = 65533 ∧ (Utf8.decode s p).2 = 1) := by
                        rintro ⟨h1, h2⟩
                        have h3 := (dec_bad (hR.trans h1)).1 h2
                        omega
                      refine c_region ?_
                      refine l_pure S (p_move rfl) rfl rfl rfl ?_; clear S a; intro a S
                      refine l_pure S (p_move rfl) rfl rfl rfl ?_; clear S a; intro a S
                      refine l_pure S (p_conv rfl (fun w => cv_int (Tryd.underlying21) (Tryd.underlying117) (r := (R : Int)) (by rw [IntKind.wrap_u32]; omega))) rfl rfl rfl ?_; clear S a; intro a S
                      refine l_call S rfl rfl Tryd.func51 rfl rfl (hex_ _ R 4 (by decide)) rfl rfl rfl ?_
                      rintro e w ⟨rfl, hb⟩
                      refine ⟨_, rfl, ?_⟩; clear S a; intro a S
                      replace H := H.later hb; clear hb
                      refine l_pure S (p_saddL ([92, 117]) ((hexl 4 R)) rfl rfl rfl rfl (by simp only [List.length_append, List.length_cons, List.length_nil, hexl_len]; omega)) rfl rfl rfl ?_; clear S a; intro a S
                      refine l_pure S (p_saddL (([34] ++ dn)) (([92, 117] ++ (hexl 4 R))) rfl rfl rfl rfl (by simp only [List.length_append, List.length_cons, List.length_nil, hexl_len]; omega)) rfl rfl rfl ?_; clear S a; intro a S
                      have hq : qr s p = ([92, 117] ++ (hexl 4 R)) := by rw [qr_esc hR hnb, esc_u (by omega)]
                      rw [← hq, List.append_assoc [34] dn (qr s p)] at S
                      refine l_pure S (p_assign rfl) rfl rfl rfl ?_; clear S a; intro a S
                      refine l_nil ?_
                      refine e_in 2 ?_
                      refine e_in 1 ?_
                      refine e_then ?_
                      exact ⟨⟨p + (Utf8.decode s p).2, dn ++ qr s p⟩, ⟨S.only ⟨rfl, rfl, rfl, trivial⟩, H, ⟨by omega, by rw [List.append_assoc, ← qt_step hlt]; exact hdn⟩⟩, (show s.size - (p + (Utf8.decode s p).2) < s.size - p by omega)⟩
                    · skip
                      have c99 := bc99
                      have c99 := of_decide_eq_false c99
                      have hnb : ¬ (R = 65533 ∧ (Utf8.decode s p).2 = 1) := by
                        rintro ⟨h1, h2⟩
                        have h3 := (dec_bad (hR.trans h1)).1 h2
                        omega
                      refine c_region ?_
                      refine l_pure S (p_move rfl) rfl rfl rfl ?_; clear S a; intro a S
                      refine l_pure S (p_move rfl) rfl rfl rfl ?_; clear S a; intro a S
                      refine l_pure S (p_conv rfl (fun w => cv_int (Tryd.underlying21) (Tryd.underlying117) (r := (R : Int)) (by rw [IntKind.wrap_u32]; omega))) rfl rfl rfl ?_; clear S a; intro a S
                      refine l_call S rfl rfl Tryd.func51 rfl rfl (hex_ _ R 8 (by decide)) rfl rfl rfl ?_
                      rintro e w ⟨rfl, hb⟩
                      refine ⟨_, rfl, ?_⟩; clear S a; intro a S
                      replace H := H.later hb; clear hb
                      refine l_pure S (p_saddL ([92, 85]) ((hexl 8 R)) rfl rfl rfl rfl (by simp only [List.length_append, List.length_cons, List.length_nil, hexl_len]; omega)) rfl rfl rfl ?_; clear S a; intro a S
                      refine l_pure S (p_saddL (([34] ++ dn)) (([92, 85] ++ (hexl 8 R))) rfl rfl rfl rfl (by simp only [List.length_append, List.length_cons, List.length_nil, hexl_len]; omega)) rfl rfl rfl ?_; clear S a; intro a S
                      have hq : qr s p = ([92, 85] ++ (hexl 8 R)) := by rw [qr_esc hR hnb, esc_U (by omega)]
                      rw [← hq, List.append_assoc [34] dn (qr s p)] at S
                      refine l_pure S (p_assign rfl) rfl rfl rfl ?_; clear S a; intro a S
                      refine l_nil ?_
                      refine e_in 2 ?_
                      refine e_in 1 ?_
                      refine e_then ?_
                      exact ⟨⟨p + (Utf8.decode s p).2, dn ++ qr s p⟩, ⟨S.only ⟨rfl, rfl, rfl, trivial⟩, H, ⟨by omega, by rw [List.append_assoc, ← qt_step hlt]; exact hdn⟩⟩, (show s.size - (p + (Utf8.decode s p).2) < s.size - p by omega)⟩
                · skip
                  have c94 := bc94
                  have c94 := of_decide_eq_false c94
                  refine l_off S rfl rfl rfl rfl bc94 rfl rfl ?_; clear S a; intro a S
                  refine l_off S rfl rfl rfl rfl bc94 rfl rfl ?_; clear S a; intro a S
                  refine l_off S rfl rfl rfl rfl bc94 rfl rfl ?_; clear S a; intro a S
                  refine l_off S rfl rfl rfl rfl bc94 rfl rfl ?_; clear S a; intro a S
                  refine l_off S rfl rfl rfl rfl bc94 rfl rfl ?_; clear S a; intro a S
                  refine l_off S rfl rfl rfl rfl bc94 rfl rfl ?_; clear S a; intro a S
                  refine l_on S rfl rfl rfl rfl bc92 ?_
                  refine l_pure S (p_pick_f rfl bc94 rfl) rfl rfl rfl ?_; clear S a; intro a S
                  refine l_on S rfl rfl rfl rfl bc92 ?_
                  refine l_pure S (p_not rfl) rfl rfl rfl ?_; clear S a; intro a S
                  refine l_on S rfl rfl rfl rfl bc88 ?_
                  refine l_pure S (p_pick_t rfl bc92 rfl) rfl rfl rfl ?_; clear S a; intro a S
                  refine l_pure S (p_pick_f rfl bc88 rfl) rfl rfl rfl ?_; clear S a; intro a S
                  refine l_pure S (p_assign rfl) rfl rfl rfl ?_; clear S a; intro a S
                  refine l_nil ?_
                  refine e_then ?_
                  refine c_cond (b := true) S rfl (fun _ => ?_) (fun h => by cases h)
                  refine c_region ?_
                  refine l_pure S (p_move rfl) rfl rfl rfl ?_; clear S a; intro a S
                  refine l_pure S (p_move rfl) rfl rfl rfl ?_; clear S a; intro a S
                  refine l_pure S (p_move rfl) rfl rfl rfl ?_; clear S a; intro a S
                  have hqx : qr s p = [92, 120] ++ hexl 2 (s.get! p).toNat := by
                    first
                    | exact qr_low hR (by omega)
                    | exact qr_bad hR (by omega) ((dec_bad (hR.trans (by omega))).2 (by omega))
                  refine l_pure S (p_index rfl rfl (fun w => ix_string Tryd.underlying9 (by omega) (by omega))) rfl rfl rfl ?_; clear S a; intro a S
                  rw [bt_get hlt] at S
                  refine l_pure S (p_conv rfl (fun w => cv_int (Tryd.underlying5) (Tryd.underlying117) (r := (((s.get! p).toNat : Nat) : Int)) (by rw [IntKind.wrap_u32]; omega))) rfl rfl rfl ?_; clear S a; intro a S
                  refine l_call S rfl rfl Tryd.func51 rfl rfl (hex_ _ (s.get! p).toNat 2 (by decide)) rfl rfl rfl ?_
                  rintro e w ⟨rfl, hb⟩
                  refine ⟨_, rfl, ?_⟩; clear S a; intro a S
                  replace H := H.later hb; clear hb
                  refine l_pure S (p_saddL ([92, 120]) ((hexl 2 (s.get! p).toNat)) rfl rfl rfl rfl (by simp only [List.length_append, List.length_cons, List.length_nil, hexl_len]; omega)) rfl rfl rfl ?_; clear S a; intro a S
                  refine l_pure S (p_saddL (([34] ++ dn)) (([92, 120] ++ (hexl 2 (s.get! p).toNat))) rfl rfl rfl rfl (by simp only [List.length_append, List.length_cons, List.length_nil, hexl_len]; omega)) rfl rfl rfl ?_; clear S a; intro a S
                  have hq : qr s p = ([92, 120] ++ (hexl 2 (s.get! p).toNat)) := hqx
                  rw [← hq, List.append_assoc [34] dn (qr s p)] at S
                  refine l_pure S (p_assign rfl) rfl rfl rfl ?_; clear S a; intro a S
                  refine l_nil ?_
                  refine e_in 2 ?_
                  refine e_in 1 ?_
                  refine e_then ?_
                  exact ⟨⟨p + (Utf8.decode s p).2, dn ++ qr s p⟩, ⟨S.only ⟨rfl, rfl, rfl, trivial⟩, H, ⟨by omega, by rw [List.append_assoc, ← qt_step hlt]; exact hdn⟩⟩, (show s.size - (p + (Utf8.decode s p).2) < s.size - p by omega)⟩
              · skip
                have c92 := bc92
                have c92 := ne_of_beq_false c92
                refine l_off S rfl rfl rfl rfl bc92 rfl rfl ?_; clear S a; intro a S
                refine l_off S rfl rfl rfl rfl bc92 rfl rfl ?_; clear S a; intro a S
                refine l_off S rfl rfl rfl rfl bc92 rfl rfl ?_; clear S a; intro a S
                refine l_off S rfl rfl rfl rfl bc92 rfl rfl ?_; clear S a; intro a S
                refine l_off S rfl rfl rfl rfl bc92 rfl rfl ?_; clear S a; intro a S
                refine l_off S rfl rfl rfl rfl bc92 rfl rfl ?_; clear S a; intro a S
                refine l_offU S rfl rfl rfl rfl rfl rfl ?_; clear S a; intro a S
                refine l_offU S rfl rfl rfl rfl rfl rfl ?_; clear S a; intro a S
                refine l_offU S rfl rfl rfl rfl rfl rfl ?_; clear S a; intro a S
                refine l_offU S rfl rfl rfl rfl rfl rfl ?_; clear S a; intro a S
                refine l_offU S rfl rfl rfl rfl rfl rfl ?_; clear S a; intro a S
                refine l_offU S rfl rfl rfl rfl rfl rfl ?_; clear S a; intro a S
                refine l_off S rfl rfl rfl rfl bc92 rfl rfl ?_; clear S a; intro a S
                refine l_off S rfl rfl rfl rfl bc92 rfl rfl ?_; clear S a; intro a S
                refine l_on S rfl rfl rfl rfl bc88 ?_
                refine l_pure S (p_pick_f rfl bc92 rfl) rfl rfl rfl ?_; clear S a; intro a S
                refine l_pure S (p_pick_f rfl bc88 rfl) rfl rfl rfl ?_; clear S a; intro a S
                refine l_pure S (p_assign rfl) rfl rfl rfl ?_; clear S a; intro a S
                refine l_nil ?_
                refine e_then ?_
                refine c_cond (b := false) S rfl (fun h => by cases h) (fun _ => ?_)
                refine wp_seq ?_
                refine c_region ?_
                refine l_pure S (p_move rfl) rfl rfl rfl ?_; clear S a; intro a S
                refine l_pure S (p_lss rfl rfl) rfl rfl rfl ?_; clear S a; intro a S
                refine l_pure S (p_assign rfl) rfl rfl rfl ?_; clear S a; intro a S
                refine l_nil ?_
                refine e_then ?_
                refine c_cond S rfl (fun bc106 => ?_) (fun bc106 => ?_)
                · skip
                  have c106 := bc106
                  have c106 := of_decide_eq_true c106
                  have hnb : ¬ (R = 65533 ∧ (Utf8.decode s p).2 = 1) := by
                    rintro ⟨h1, h2⟩
                    have h3 := (dec_bad (hR.trans h1)).1 h2
                    omega
                  refine c_region ?_
                  refine l_pure S (p_move rfl) rfl rfl rfl ?_; clear S a; intro a S
                  refine l_pure S (p_move rfl) rfl rfl rfl ?_; clear S a; intro a S
                  refine l_pure S (p_conv rfl (fun w => cv_int (Tryd.underlying21) (Tryd.underlying117) (r := (R : Int)) (by rw [IntKind.wrap_u32]; omega))) rfl rfl rfl ?_; clear S a; intro a S
                  refine l_call S rfl rfl Tryd.func51 rfl rfl (hex_ _ R 4 (by decide)) rfl rfl rfl ?_
                  rintro e w ⟨rfl, hb⟩
                  refine ⟨_, rfl, ?_⟩; clear S a; intro a S
                  replace H := H.later hb; clear hb
                  refine l_pure S (p_saddL ([92, 117]) ((hexl 4 R)) rfl rfl rfl rfl (by simp only [List.length_append, List.length_cons, List.length_nil, hexl_len]; omega)) rfl rfl rfl ?_; clear S a; intro a S
                  refine l_pure S (p_saddL (([34] ++ dn)) (([92, 117] ++ (hexl 4 R))) rfl rfl rfl rfl (by simp only [List.length_append, List.length_cons, List.length_nil, hexl_len]; omega)) rfl rfl rfl ?_; clear S a; intro a S
                  have hq : qr s p = ([92, 117] ++ (hexl 4 R)) := by rw [qr_esc hR hnb, esc_u (by omega)]
                  rw [← hq, List.append_assoc [34] dn (qr s p)] at S
                  refine l_pure S (p_assign rfl) rfl rfl rfl ?_; clear S a; intro a S
                  refine l_nil ?_
                  refine e_in 2 ?_
                  refine e_in 1 ?_
                  refine e_then ?_
                  exact ⟨⟨p + (Utf8.decode s p).2, dn ++ qr s p⟩, ⟨S.only ⟨rfl, rfl, rfl, trivial⟩, H, ⟨by omega, by rw [List.append_assoc, ← qt_step hlt]; exact hdn⟩⟩, (show s.size - (p + (Utf8.decode s p).2) < s.size - p by omega)⟩
                · skip
                  have c106 := bc106
                  have c106 := of_decide_eq_false c106
                  have hnb : ¬ (R = 65533 ∧ (Utf8.decode s p).2 = 1) := by
                    rintro ⟨h1, h2⟩
                    have h3 := (dec_bad (hR.trans h1)).1 h2
                    omega
                  refine c_region ?_
                  refine l_pure S (p_move rfl) rfl rfl rfl ?_; clear S a; intro a S
                  refine l_pure S (p_move rfl) rfl rfl rfl ?_; clear S a; intro a S
                  refine l_pure S (p_conv rfl (fun w => cv_int (Tryd.underlying21) (Tryd.underlying117) (r := (R : Int)) (by rw [IntKind.wrap_u32]; omega))) rfl rfl rfl ?_; clear S a; intro a S
                  refine l_call S rfl rfl Tryd.func51 rfl rfl (hex_ _ R 8 (by decide)) rfl rfl rfl ?_
                  rintro e w ⟨rfl, hb⟩
                  refine ⟨_, rfl, ?_⟩; clear S a; intro a S
                  replace H := H.later hb; clear hb
                  refine l_pure S (p_saddL ([92, 85]) ((hexl 8 R)) rfl rfl rfl rfl (by simp only [List.length_append, List.length_cons, List.length_nil, hexl_len]; omega)) rfl rfl rfl ?_; clear S a; intro a S
                  refine l_pure S (p_saddL (([34] ++ dn)) (([92, 85] ++ (hexl 8 R))) rfl rfl rfl rfl (by simp only [List.length_append, List.length_cons, List.length_nil, hexl_len]; omega)) rfl rfl rfl ?_; clear S a; intro a S
                  have hq : qr s p = ([92, 85] ++ (hexl 8 R)) := by rw [qr_esc hR hnb, esc_U (by omega)]
                  rw [← hq, List.append_assoc [34] dn (qr s p)] at S
                  refine l_pure S (p_assign rfl) rfl rfl rfl ?_; clear S a; intro a S
                  refine l_nil ?_
                  refine e_in 2 ?_
                  refine e_in 1 ?_
                  refine e_then ?_
                  exact ⟨⟨p + (Utf8.decode s p).2, dn ++ qr s p⟩, ⟨S.only ⟨rfl, rfl, rfl, trivial⟩, H, ⟨by omega, by rw [List.append_assoc, ← qt_step hlt]; exact hdn⟩⟩, (show s.size - (p + (Utf8.decode s p).2) < s.size - p by omega)⟩
  · skip
    refine l_nextE S H rfl rfl (by omega) rfl rfl rfl ?_; clear S a; intro a S
    refine l_pure S (p_extract rfl rfl) rfl rfl rfl ?_; clear S a; intro a S
    refine l_nil ?_
    refine e_then ?_
    refine wp_seq ?_
    refine c_cond (b := false) S rfl (fun h => by cases h) (fun _ => ?_)
    refine wp_exit ?_
    refine e_then_exit ?_
    refine e_then_exit ?_
    refine e_in_exit ?_
    refine e_then ?_
    refine wp_seq ?_
    refine c_region ?_
    refine l_pure S (p_move rfl) rfl rfl rfl ?_; clear S a; intro a S
    refine l_pure S (p_saddL (([34] ++ dn)) ([34]) rfl rfl rfl rfl (by simp only [List.length_append, List.length_cons, List.length_nil, hexl_len]; omega)) rfl rfl rfl ?_; clear S a; intro a S
    refine l_pure S (p_assign rfl) rfl rfl rfl ?_; clear S a; intro a S
    refine l_nil ?_
    refine e_then ?_
    refine wp_ret ?_
    have hl : ([34] ++ dn) ++ [34] = quo s := by unfold quo; rw [← hdn, qt_end (by omega), List.append_nil]
    rw [hl] at S
    exact r_ret1 S rfl rfl ⟨rfl, H.below⟩
end rf
end Go.Proofs.YtnmelglnkefjfaaDoor.ct
