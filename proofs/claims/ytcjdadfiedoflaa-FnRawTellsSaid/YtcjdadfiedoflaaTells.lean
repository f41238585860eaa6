/- FnRawTells: what is asked of a raw message. -/
import Derived.Test.YtcjdadfiedoflaaBs
import Derived.Test.YtcjdadfiedoflaaRt3
import Derived.Lib.BytesEntry
namespace Go.Proofs.Ytcjdadfiedoflaa.tells.t
open Go.RowKit Go.Proofs.HHW Go.Proofs.YtcjdadfiedoflaaW.PrintWords
set_option linter.unusedVariables false
set_option linter.unusedSimpArgs false
def nullF (l : List Int) : Bool := decide (l = [95, 13, 10]) || (decide (4 ≤ l.length) && decide ((l.take 4).drop 1 = [45, 49, 13]))
def emptyF (l : List Int) : Bool := decide (l.getD 0 0 = 42 ∨ l.getD 0 0 = 37 ∨ l.getD 0 0 = 126 ∨ l.getD 0 0 = 124 ∨ l.getD 0 0 = 62) && decide (0 < l.length) && decide (l.drop 1 = [48, 13, 10])
def streamF (l : List Int) : Bool := decide (l.getD 0 0 = 42 ∨ l.getD 0 0 = 37 ∨ l.getD 0 0 = 126 ∨ l.getD 0 0 = 124 ∨ l.getD 0 0 = 62 ∨ l.getD 0 0 = 36) && decide (0 < l.length) && decide (l.drop 1 = [63, 13, 10])
theorem equal_f {l l' : List Int} (hl : ∀ x ∈ l, 0 ≤ x ∧ x ≤ 255) (hl' : ∀ x ∈ l', 0 ≤ x ∧ x ≤ 255) : PFnRawTells.bytes_Equal.f l l' = some (decide (l = l')) := by
  unfold PFnRawTells.bytes_Equal.f
  have h : ∀ l : List Int, (strOfNums l).toList = Lib.bytesOf l := fun l => Lib.strOfNums_toList l
  rw [h, h]
  have inj : ∀ l l' : List Int, (∀ x ∈ l, 0 ≤ x ∧ x ≤ 255) → (∀ x ∈ l', 0 ≤ x ∧ x ≤ 255) → (Lib.bytesOf l = Lib.bytesOf l' ↔ l = l') := by
    intro l
    induction l with
    | nil => intro l' _ _; cases l' <;> simp [Lib.bytesOf]
    | cons x l ih =>
      intro l' h1 h2
      cases l' with
      | nil => simp [Lib.bytesOf]
      | cons y l' =>
        have := ih l' (fun z hz => h1 z (List.mem_cons_of_mem _ hz)) (fun z hz => h2 z (List.mem_cons_of_mem _ hz))
        simp only [Lib.bytesOf, List.map_cons, List.cons.injEq] at this ⊢
        rw [this]
        have hx := h1 x List.mem_cons_self
        have hy := h2 y List.mem_cons_self
        have : UInt8.ofNat x.toNat = UInt8.ofNat y.toNat ↔ x = y := by
          constructor
          · intro e
            have := congrArg UInt8.toNat e
            simp at this
            omega
          · intro e; rw [e]
        rw [this]
  congr 1
  by_cases e : l = l'
  · subst e; simp
  · have := (not_congr (inj l l' hl hl')).2 e
    rw [decide_eq_false e]
    simpa using this
theorem ag4 : aggB Try.prog 4 = some false := by kernel_rfl
theorem ag5 : aggB Try.prog 5 = some false := by kernel_rfl
theorem sz4 : szB Try.prog 4 = some 1 := by kernel_rfl
theorem sz5 : szB Try.prog 5 = some 1 := by kernel_rfl
theorem zv4 : zvB Try.prog 4 = some (.bool false) := by kernel_rfl
theorem zv5 : zvB Try.prog 5 = some (.int .u8 0) := by kernel_rfl
theorem t_null (w0 : World) : Calls Try.prog 49 #[] w0 fun e w' => ∃ g, e = .returned (.slice (some ⟨g, 0, none⟩) 3 3) ∧ RB w' g 0 [95, 13, 10] ∧ Below w0.heap.size w0 w' := by
  have H := HH.start w0
  refine c_enter (args := []) (k := 3) Try.func49 rfl rfl rfl (fun a S => ?_)
  refine wp_seq ?_
  refine c_region ?_
  refine l_pure S (p_assign rfl) rfl rfl rfl ?_; clear S a; intro a S
  refine l_nil ?_
  refine e_then ?_
  refine wp_seq ?_
  refine c_region ?_
  refine l_lit [.const (.int .u8 95), .const (.int .u8 13), .const (.int .u8 10)] S H rfl rfl Try.underlying55 sz5 zv5 rfl rfl (by simp [Value.cells]) rfl rfl rfl ?_; clear S a H; intro g1 w a H S
  refine l_mark S H rfl rfl Try.underlying55 Try.underlying5 .here rfl rfl rfl ?_; clear S a H; intro w a H S
  refine l_pure S (p_assign rfl) rfl rfl rfl ?_; clear S a; intro a S
  refine l_nil ?_
  refine e_then ?_
  refine wp_ret ?_
  exact r_ret1 S rfl rfl ⟨g1, rfl, RB.of H List.mem_cons_self (by intro i v hi; rcases i with _ | _ | _ | i <;> simp at hi <;> subst hi <;> rfl), H.below⟩
theorem t_suffix (w0 : World) : Calls Try.prog 50 #[] w0 fun e w' => ∃ g, e = .returned (.slice (some ⟨g, 0, none⟩) 3 3) ∧ RB w' g 0 [45, 49, 13] ∧ Below w0.heap.size w0 w' := by
  have H := HH.start w0
  refine c_enter (args := []) (k := 3) Try.func50 rfl rfl rfl (fun a S => ?_)
  refine wp_seq ?_
  refine c_region ?_
  refine l_pure S (p_assign rfl) rfl rfl rfl ?_; clear S a; intro a S
  refine l_nil ?_
  refine e_then ?_
  refine wp_seq ?_
  refine c_region ?_
  refine l_lit [.const (.int .u8 45), .const (.int .u8 49), .const (.int .u8 13)] S H rfl rfl Try.underlying55 sz5 zv5 rfl rfl (by simp [Value.cells]) rfl rfl rfl ?_; clear S a H; intro g1 w a H S
  refine l_mark S H rfl rfl Try.underlying55 Try.underlying5 .here rfl rfl rfl ?_; clear S a H; intro w a H S
  refine l_pure S (p_assign rfl) rfl rfl rfl ?_; clear S a; intro a S
  refine l_nil ?_
  refine e_then ?_
  refine wp_ret ?_
  exact r_ret1 S rfl rfl ⟨g1, rfl, RB.of H List.mem_cons_self (by intro i v hi; rcases i with _ | _ | _ | i <;> simp at hi <;> subst hi <;> rfl), H.below⟩
theorem t_empty (w0 : World) : Calls Try.prog 51 #[] w0 fun e w' => ∃ g, e = .returned (.slice (some ⟨g, 0, none⟩) 3 3) ∧ RB w' g 0 [48, 13, 10] ∧ Below w0.heap.size w0 w' := by
  have H := HH.start w0
  refine c_enter (args := []) (k := 3) Try.func51 rfl rfl rfl (fun a S => ?_)
  refine wp_seq ?_
  refine c_region ?_
  refine l_pure S (p_assign rfl) rfl rfl rfl ?_; clear S a; intro a S
  refine l_nil ?_
  refine e_then ?_
  refine wp_seq ?_
  refine c_region ?_
  refine l_lit [.const (.int .u8 48), .const (.int .u8 13), .const (.int .u8 10)] S H rfl rfl Try.underlying55 sz5 zv5 rfl rfl (by simp [Value.cells]) rfl rfl rfl ?_; clear S a H; intro g1 w a H S
  refine l_mark S H rfl rfl Try.underlying55 Try.underlying5 .here rfl rfl rfl ?_; clear S a H; intro w a H S
  refine l_pure S (p_assign rfl) rfl rfl rfl ?_; clear S a; intro a S
  refine l_nil ?_
  refine e_then ?_
  refine wp_ret ?_
  exact r_ret1 S rfl rfl ⟨g1, rfl, RB.of H List.mem_cons_self (by intro i v hi; rcases i with _ | _ | _ | i <;> simp at hi <;> subst hi <;> rfl), H.below⟩
theorem t_streamed (w0 : World) : Calls Try.prog 52 #[] w0 fun e w' => ∃ g, e = .returned (.slice (some ⟨g, 0, none⟩) 3 3) ∧ RB w' g 0 [63, 13, 10] ∧ Below w0.heap.size w0 w' := by
  have H := HH.start w0
  refine c_enter (args := []) (k := 3) Try.func52 rfl rfl rfl (fun a S => ?_)
  refine wp_seq ?_
  refine c_region ?_
  refine l_pure S (p_assign rfl) rfl rfl rfl ?_; clear S a; intro a S
  refine l_nil ?_
  refine e_then ?_
  refine wp_seq ?_
  refine c_region ?_
  refine l_lit [.const (.int .u8 63), .const (.int .u8 13), .const (.int .u8 10)] S H rfl rfl Try.underlying55 sz5 zv5 rfl rfl (by simp [Value.cells]) rfl rfl rfl ?_; clear S a H; intro g1 w a H S
  refine l_mark S H rfl rfl Try.underlying55 Try.underlying5 .here rfl rfl rfl ?_; clear S a H; intro w a H S
  refine l_pure S (p_assign rfl) rfl rfl rfl ?_; clear S a; intro a S
  refine l_nil ?_
  refine e_then ?_
  refine wp_ret ?_
  exact r_ret1 S rfl rfl ⟨g1, rfl, RB.of H List.mem_cons_self (by intro i v hi; rcases i with _ | _ | _ | i <;> simp at hi <;> subst hi <;> rfl), H.below⟩
theorem t_equal (l l' : List Int) (g o c g' o' c' : Nat) (w0 : World) (hr : RB w0 g o l) (hr' : RB w0 g' o' l') (hc : l.length ≤ c) (hc' : l'.length ≤ c') (hs : l.length ≤ 9223372036854775807) (hs' : l'.length ≤ 9223372036854775807) (hl : ∀ x ∈ l, 0 ≤ x ∧ x ≤ 255) (hl' : ∀ x ∈ l', 0 ≤ x ∧ x ≤ 255) :
    Calls Try.prog 48 #[.slice (some ⟨g, o, none⟩) l.length c, .slice (some ⟨g', o', none⟩) l'.length c'] w0 fun e w' => e = .returned (.bool (decide (l = l'))) ∧ Below w0.heap.size w0 w' :=
  (PFnRawTells.bytes_Equal.calls _ _ l _ _ l' (decide (l = l')) w0 (hr.C hs) hc (hr'.C hs') hc' (equal_f hl hl')).mono fun e w' ⟨he, hd⟩ => ⟨he, hd.below⟩
theorem isnull (l : List Int) (g o c : Nat) (w0 : World) (hr : RB w0 g o l) (hc : l.length ≤ c) (hs : l.length ≤ 1000000) (hl : ∀ x ∈ l, 0 ≤ x ∧ x ≤ 255) : Calls Try.prog 37 #[.slice (some ⟨g, o, none⟩) l.length c] w0 fun e w' => e = .returned (.bool (nullF l)) ∧ Below w0.heap.size w0 w' := by
  have H := HH.start w0
  refine c_enter (args := [.slice (some ⟨g, o, none⟩) l.length c]) (k := 18) Try.func37 rfl rfl rfl (fun a S => ?_)
  refine wp_seq ?_
  refine c_region ?_
  refine l_pure S (p_assign rfl) rfl rfl rfl ?_; clear S a; intro a S
  refine l_nil ?_
  refine e_then ?_
  refine wp_seq ?_
  refine wp_seq ?_
  refine c_region ?_
  refine l_pure S (p_move rfl) rfl rfl rfl ?_; clear S a; intro a S
  refine l_call S rfl rfl Try.func49 rfl rfl (t_null _) rfl rfl rfl ?_
  rintro e w ⟨q1, rfl, hq1, hb⟩
  refine ⟨_, rfl, ?_⟩; clear S a; intro a S
  replace H := H.later hb; clear hb
  refine l_call S rfl rfl Try.func48 rfl rfl (t_equal l [95, 13, 10] _ _ _ _ _ _ _ (hr.old H) hq1 hc (by decide) (by omega) (by decide) hl (by decide)) rfl rfl rfl ?_
  rintro e w ⟨rfl, hb⟩
  refine ⟨_, rfl, ?_⟩; clear S a; intro a S
  replace H := H.later hb; replace hq1 := hq1.later hb; clear hb
  refine l_nil ?_
  refine e_then ?_
  refine c_cond S rfl (fun c3 => ?_) (fun c3 => ?_)
  · skip
    refine wp_seq ?_
    refine c_region ?_
    refine l_pure S (p_assign rfl) rfl rfl rfl ?_; clear S a; intro a S
    refine l_nil ?_
    refine e_then ?_
    refine wp_ret ?_
    refine e_then_ret ?_
    exact r_ret1 S rfl rfl ⟨(by congr 2; simp only [nullF, emptyF, streamF]; first | (simp_all; done) | grind), H.below⟩
  · skip
    refine wp_seq ?_
    refine c_region ?_
    refine l_pure S (p_move rfl) rfl rfl rfl ?_; clear S a; intro a S
    refine l_pure S (p_builtin (xs := [_]) rfl (fun _ _ _ => rfl)) rfl rfl rfl ?_; clear S a; intro a S
    refine l_call S rfl rfl Try.func50 rfl rfl (t_suffix _) rfl rfl rfl ?_
    rintro e w ⟨q2, rfl, hq2, hb⟩
    refine ⟨_, rfl, ?_⟩; clear S a; intro a S
    replace H := H.later hb; replace hq1 := hq1.later hb; clear hb
    refine l_pure S (p_builtin (xs := [_]) rfl (fun _ _ _ => rfl)) rfl rfl rfl ?_; clear S a; intro a S
    refine l_pure S (p_add (r := _) rfl rfl (IntWalk.i64_in _ (by omega))) rfl rfl rfl ?_; clear S a; intro a S
    refine l_pure S (p_lss rfl rfl) rfl rfl rfl ?_; clear S a; intro a S
    refine l_nil ?_
    refine e_then ?_
    refine c_cond S rfl (fun c6 => ?_) (fun c6 => ?_)
    · skip
      have c6 := of_decide_eq_true c6
      refine wp_seq ?_
      refine c_region ?_
      refine l_pure S (p_assign rfl) rfl rfl rfl ?_; clear S a; intro a S
      refine l_nil ?_
      refine e_then ?_
      refine wp_ret ?_
      refine e_then_ret ?_
      exact r_ret1 S rfl rfl ⟨(by congr 2; simp only [nullF, emptyF, streamF]; first | (simp_all; done) | grind), H.below⟩
    · skip
      have c6 := of_decide_eq_false c6
      refine wp_skip ?_
      refine e_then ?_
      refine wp_seq ?_
      refine d_start (id := 5) [] 8 #[false, false, false, false, false, false, false, false] H rfl rfl rfl (fun w H => ?_)
      refine d_pure (i := 0) #[true, false, false, false, false, false, false, false] S rfl (p_move rfl) (wanted_none rfl) rfl rfl (by kernel_rfl) (fun _ _ _ h => h) ?_; clear S a; intro a S
      refine d_call (i := 1) #[true, true, false, false, false, false, false, false] S rfl rfl rfl Try.func50 rfl rfl (t_suffix _) (wanted_none rfl) rfl rfl (by kernel_rfl) rfl ?_
      rintro e w ⟨q3, rfl, hq3, hb⟩
      replace H := H.later hb; clear hb
      refine ⟨_, rfl, H, ?_⟩; clear S a; intro a S
      refine d_pure (i := 2) #[true, true, true, false, false, false, false, false] S rfl (p_builtin (xs := [_]) rfl (fun _ _ _ => rfl)) (wanted_none rfl) rfl rfl (by kernel_rfl) (fun _ _ _ h => h) ?_; clear S a; intro a S
      refine d_pure (i := 3) #[true, true, true, true, false, false, false, false] S rfl (p_add (r := _) rfl rfl (IntWalk.i64_in _ (by omega))) (wanted_none rfl) rfl rfl (by kernel_rfl) (fun _ _ _ h => h) ?_; clear S a; intro a S
      refine d_pure (i := 4) #[true, true, true, true, true, false, false, false] S rfl (p_slice rfl (o_some rfl) (o_some rfl) (fun _ _ => o_none) (fun w => sl_byte (l := l) (m := 1) (h := 4) Try.underlying65 sz5 rfl rfl (by omega) (by omega) hc)) (wanted_none rfl) rfl rfl (by kernel_rfl) (fun _ _ _ h => h) ?_; clear S a; intro a S
      refine d_call (i := 5) #[true, true, true, true, true, true, false, false] S rfl rfl rfl Try.func50 rfl rfl (t_suffix _) (wanted_none rfl) rfl rfl (by kernel_rfl) rfl ?_
      rintro e w ⟨q4, rfl, hq4, hb⟩
      replace H := H.later hb; replace hq3 := hq3.later hb; clear hb
      refine ⟨_, rfl, H, ?_⟩; clear S a; intro a S
      refine d_call (i := 6) #[true, true, true, true, true, true, true, false] S rfl rfl rfl Try.func48 rfl rfl (t_equal ((l.take 4).drop 1) [45, 49, 13] _ _ _ _ _ _ _ ((hr.cut 1 4 hc).old H) hq4 (by rw [List.length_drop, List.length_take]; omega) (by decide) (by rw [List.length_drop, List.length_take]; omega) (by decide) (fun x hx => hl x (List.mem_of_mem_take (List.mem_of_mem_drop hx))) (by decide)) (wanted_none rfl) rfl rfl (by kernel_rfl) rfl ?_
      rintro e w ⟨rfl, hb⟩
      replace H := H.later hb; replace hq3 := hq3.later hb; replace hq4 := hq4.later hb; clear hb
      refine ⟨_, rfl, H, ?_⟩; clear S a; intro a S
      refine d_pure (i := 7) #[true, true, true, true, true, true, true, true] S rfl (p_assign rfl) (wanted_none rfl) rfl rfl (by kernel_rfl) (fun _ _ _ h => h) ?_; clear S a; intro a S
      refine d_done (by kernel_rfl) ?_
      refine e_then ?_
      refine wp_ret ?_
      exact r_ret1 S rfl rfl ⟨(by congr 2; simp only [nullF, emptyF, streamF]; first | (simp_all; done) | grind), H.below⟩
theorem isempty (l : List Int) (g o c : Nat) (w0 : World) (hr : RB w0 g o l) (hc : l.length ≤ c) (hs : l.length ≤ 1000000) (hl : ∀ x ∈ l, 0 ≤ x ∧ x ≤ 255) : Calls Try.prog 38 #[.slice (some ⟨g, o, none⟩) l.length c] w0 fun e w' => e = .returned (.bool (emptyF l)) ∧ Below w0.heap.size w0 w' := by
  have H := HH.start w0
  refine c_enter (args := [.slice (some ⟨g, o, none⟩) l.length c]) (k := 18) Try.func38 rfl rfl rfl (fun a S => ?_)
  refine wp_seq ?_
  refine c_region ?_
  refine l_pure S (p_assign rfl) rfl rfl rfl ?_; clear S a; intro a S
  refine l_nil ?_
  refine e_then ?_
  refine wp_seq ?_
  refine wp_seq ?_
  refine c_region ?_
  refine l_pure S (p_move rfl) rfl rfl rfl ?_; clear S a; intro a S
  refine l_pure S (p_builtin (xs := [_]) rfl (fun _ _ _ => rfl)) rfl rfl rfl ?_; clear S a; intro a S
  refine l_pure S (p_eql rfl rfl) rfl rfl rfl ?_; clear S a; intro a S
  refine l_nil ?_
  refine e_then ?_
  refine c_cond S rfl (fun c3 => ?_) (fun c3 => ?_)
  · skip
    have c3 := eq_of_beq c3
    refine wp_seq ?_
    refine c_region ?_
    refine l_pure S (p_assign rfl) rfl rfl rfl ?_; clear S a; intro a S
    refine l_nil ?_
    refine e_then ?_
    refine wp_ret ?_
    refine e_then_ret ?_
    exact r_ret1 S rfl rfl ⟨(by congr 2; simp only [nullF, emptyF, streamF]; first | (simp_all; done) | grind), H.below⟩
  · skip
    have c3 := ne_of_beq_false c3
    refine wp_skip ?_
    refine e_then ?_
    refine wp_seq ?_
    refine wp_seq ?_
    refine c_region ?_
    refine l_pure S (p_move rfl) rfl rfl rfl ?_; clear S a; intro a S
    refine l_pure S (p_indexAddr rfl rfl (fun w => ia_slice Try.underlying65 sz5 (by omega) (by omega))) rfl rfl rfl ?_; clear S a; intro a S
    refine l_read S H (r_byte (l := l) (i := 0) (v := l.getD (0) 0) rfl (by omega) ag5 hr rfl (get_some 0 (by omega))) rfl rfl rfl ?_; clear S a; intro a S
    refine l_nil ?_
    refine e_then ?_
    refine wp_block ?_
    refine wp_seq ?_
    refine wp_seq ?_
    refine c_region ?_
    refine l_pure S (p_eql rfl rfl) rfl rfl rfl ?_; clear S a; intro a S
    refine l_pure S (p_assign rfl) rfl rfl rfl ?_; clear S a; intro a S
    refine l_nil ?_
    refine e_then ?_
    refine c_cond S rfl (fun c6 => ?_) (fun c6 => ?_)
    · skip
      have c6 := eq_of_beq c6
      refine wp_skip ?_
      refine e_then ?_
      refine c_cond S rfl (fun c7 => ?_) (fun c7 => ?_)
      · skip
        have c7 := eq_of_beq c7
        refine wp_seq ?_
        refine d_start (id := 9) [] 5 #[false, false, false, false, false] H rfl rfl rfl (fun w H => ?_)
        refine d_pure (i := 0) #[true, false, false, false, false] S rfl (p_move rfl) (wanted_none rfl) rfl rfl (by kernel_rfl) (fun _ _ _ h => h) ?_; clear S a; intro a S
        refine d_pure (i := 1) #[true, true, false, false, false] S rfl (p_slice rfl (o_some rfl) (fun _ _ => o_none) (fun _ _ => o_none) (fun w => sl_byte_lo (l := l) (m := 1) Try.underlying65 sz5 rfl (by omega))) (wanted_none rfl) rfl rfl (by kernel_rfl) (fun _ _ _ h => h) ?_; clear S a; intro a S
        refine d_call (i := 2) #[true, true, true, false, false] S rfl rfl rfl Try.func51 rfl rfl (t_empty _) (wanted_none rfl) rfl rfl (by kernel_rfl) rfl ?_
        rintro e w ⟨q1, rfl, hq1, hb⟩
        replace H := H.later hb; clear hb
        refine ⟨_, rfl, H, ?_⟩; clear S a; intro a S
        refine d_call (i := 3) #[true, true, true, true, false] S rfl rfl rfl Try.func48 rfl rfl (t_equal (l.drop 1) [48, 13, 10] _ _ _ _ _ _ _ ((hr.off 1 hc).old H) hq1 (by rw [List.length_drop]; omega) (by decide) (by rw [List.length_drop]; omega) (by decide) (fun x hx => hl x (List.mem_of_mem_drop hx)) (by decide)) (wanted_none rfl) rfl rfl (by kernel_rfl) rfl ?_
        rintro e w ⟨rfl, hb⟩
        replace H := H.later hb; replace hq1 := hq1.later hb; clear hb
        refine ⟨_, rfl, H, ?_⟩; clear S a; intro a S
        refine d_pure (i := 4) #[true, true, true, true, true] S rfl (p_assign rfl) (wanted_none rfl) rfl rfl (by kernel_rfl) (fun _ _ _ h => h) ?_; clear S a; intro a S
        refine d_done (by kernel_rfl) ?_
        refine e_then ?_
        refine wp_ret ?_
        refine e_in_ret ?_
        refine e_then_ret ?_
        exact r_ret1 S rfl rfl ⟨(by congr 2; simp only [nullF, emptyF, streamF]; first | (simp_all; done) | grind), H.below⟩
      · skip
        have c7 := ne_of_beq_false c7
        refine wp_skip ?_
        refine e_in 0 ?_
        refine e_then ?_
        refine wp_seq ?_
        refine c_region ?_
        refine l_pure S (p_assign rfl) rfl rfl rfl ?_; clear S a; intro a S
        refine l_nil ?_
        refine e_then ?_
        refine wp_ret ?_
        exact r_ret1 S rfl rfl ⟨(by congr 2; simp only [nullF, emptyF, streamF]; first | (simp_all; done) | grind), H.below⟩
    · skip
      have c6 := ne_of_beq_false c6
      refine wp_seq ?_
      refine c_region ?_
      refine l_pure S (p_eql rfl rfl) rfl rfl rfl ?_; clear S a; intro a S
      refine l_pure S (p_assign rfl) rfl rfl rfl ?_; clear S a; intro a S
      refine l_nil ?_
      refine e_then ?_
      refine c_cond S rfl (fun c11 => ?_) (fun c11 => ?_)
      · skip
        have c11 := eq_of_beq c11
        refine wp_skip ?_
        refine e_then ?_
        refine c_cond S rfl (fun c12 => ?_) (fun c12 => ?_)
        · skip
          have c12 := eq_of_beq c12
          refine wp_seq ?_
          refine d_start (id := 9) [] 5 #[false, false, false, false, false] H rfl rfl rfl (fun w H => ?_)
          refine d_pure (i := 0) #[true, false, false, false, false] S rfl (p_move rfl) (wanted_none rfl) rfl rfl (by kernel_rfl) (fun _ _ _ h => h) ?_; clear S a; intro a S
          refine d_pure (i := 1) #[true, true, false, false, false] S rfl (p_slice rfl (o_some rfl) (fun _ _ => o_none) (fun _ _ => o_none) (fun w => sl_byte_lo (l := l) (m := 1) Try.underlying65 sz5 rfl (by omega))) (wanted_none rfl) rfl rfl (by kernel_rfl) (fun _ _ _ h => h) ?_; clear S a; intro a S
          refine d_call (i := 2) #[true, true, true, false, false] S rfl rfl rfl Try.func51 rfl rfl (t_empty _) (wanted_none rfl) rfl rfl (by kernel_rfl) rfl ?_
          rintro e w ⟨q2, rfl, hq2, hb⟩
          replace H := H.later hb; clear hb
          refine ⟨_, rfl, H, ?_⟩; clear S a; intro a S
          refine d_call (i := 3) #[true, true, true, true, false] S rfl rfl rfl Try.func48 rfl rfl (t_equal (l.drop 1) [48, 13, 10] _ _ _ _ _ _ _ ((hr.off 1 hc).old H) hq2 (by rw [List.length_drop]; omega) (by decide) (by rw [List.length_drop]; omega) (by decide) (fun x hx => hl x (List.mem_of_mem_drop hx)) (by decide)) (wanted_none rfl) rfl rfl (by kernel_rfl) rfl ?_
          rintro e w ⟨rfl, hb⟩
          replace H := H.later hb; replace hq2 := hq2.later hb; clear hb
          refine ⟨_, rfl, H, ?_⟩; clear S a; intro a S
          refine d_pure (i := 4) #[true, true, true, true, true] S rfl (p_assign rfl) (wanted_none rfl) rfl rfl (by kernel_rfl) (fun _ _ _ h => h) ?_; clear S a; intro a S
          refine d_done (by kernel_rfl) ?_
          refine e_then ?_
          refine wp_ret ?_
          refine e_in_ret ?_
          refine e_then_ret ?_
          exact r_ret1 S rfl rfl ⟨(by congr 2; simp only [nullF, emptyF, streamF]; first | (simp_all; done) | grind), H.below⟩
        · skip
          have c12 := ne_of_beq_false c12
          refine wp_skip ?_
          refine e_in 0 ?_
          refine e_then ?_
          refine wp_seq ?_
          refine c_region ?_
          refine l_pure S (p_assign rfl) rfl rfl rfl ?_; clear S a; intro a S
          refine l_nil ?_
          refine e_then ?_
          refine wp_ret ?_
          exact r_ret1 S rfl rfl ⟨(by congr 2; simp only [nullF, emptyF, streamF]; first | (simp_all; done) | grind), H.below⟩
      · skip
        have c11 := ne_of_beq_false c11
        refine wp_seq ?_
        refine c_region ?_
        refine l_pure S (p_eql rfl rfl) rfl rfl rfl ?_; clear S a; intro a S
        refine l_pure S (p_assign rfl) rfl rfl rfl ?_; clear S a; intro a S
        refine l_nil ?_
        refine e_then ?_
        refine c_cond S rfl (fun c16 => ?_) (fun c16 => ?_)
        · skip
          have c16 := eq_of_beq c16
          refine wp_skip ?_
          refine e_then ?_
          refine c_cond S rfl (fun c17 => ?_) (fun c17 => ?_)
          · skip
            have c17 := eq_of_beq c17
            refine wp_seq ?_
            refine d_start (id := 9) [] 5 #[false, false, false, false, false] H rfl rfl rfl (fun w H => ?_)
            refine d_pure (i := 0) #[true, false, false, false, false] S rfl (p_move rfl) (wanted_none rfl) rfl rfl (by kernel_rfl) (fun _ _ _ h => h) ?_; clear S a; intro a S
            refine d_pure (i := 1) #[true, true, false, false, false] S rfl (p_slice rfl (o_some rfl) (fun _ _ => o_none) (fun _ _ => o_none) (fun w => sl_byte_lo (l := l) (m := 1) Try.underlying65 sz5 rfl (by omega))) (wanted_none rfl) rfl rfl (by kernel_rfl) (fun _ _ _ h => h) ?_; clear S a; intro a S
            refine d_call (i := 2) #[true, true, true, false, false] S rfl rfl rfl Try.func51 rfl rfl (t_empty _) (wanted_none rfl) rfl rfl (by kernel_rfl) rfl ?_
            rintro e w ⟨q3, rfl, hq3, hb⟩
            replace H := H.later hb; clear hb
            refine ⟨_, rfl, H, ?_⟩; clear S a; intro a S
            refine d_call (i := 3) #[true, true, true, true, false] S rfl rfl rfl Try.func48 rfl rfl (t_equal (l.drop 1) [48, 13, 10] _ _ _ _ _ _ _ ((hr.off 1 hc).old H) hq3 (by rw [List.length_drop]; omega) (by decide) (by rw [List.length_drop]; omega) (by decide) (fun x hx => hl x (List.mem_of_mem_drop hx)) (by decide)) (wanted_none rfl) rfl rfl (by kernel_rfl) rfl ?_
            rintro e w ⟨rfl, hb⟩
            replace H := H.later hb; replace hq3 := hq3.later hb; clear hb
            refine ⟨_, rfl, H, ?_⟩; clear S a; intro a S
            refine d_pure (i := 4) #[true, true, true, true, true] S rfl (p_assign rfl) (wanted_none rfl) rfl rfl (by kernel_rfl) (fun _ _ _ h => h) ?_; clear S a; intro a S
            refine d_done (by kernel_rfl) ?_
            refine e_then ?_
            refine wp_ret ?_
            refine e_in_ret ?_
            refine e_then_ret ?_
            exact r_ret1 S rfl rfl ⟨(by congr 2; simp only [nullF, emptyF, streamF]; first | (simp_all; done) | grind), H.below⟩
          · skip
            have c17 := ne_of_beq_false c17
            refine wp_skip ?_
            refine e_in 0 ?_
            refine e_then ?_
            refine wp_seq ?_
            refine c_region ?_
            refine l_pure S (p_assign rfl) rfl rfl rfl ?_; clear S a; intro a S
            refine l_nil ?_
            refine e_then ?_
            refine wp_ret ?_
            exact r_ret1 S rfl rfl ⟨(by congr 2; simp only [nullF, emptyF, streamF]; first | (simp_all; done) | grind), H.below⟩
        · skip
          have c16 := ne_of_beq_false c16
          refine wp_seq ?_
          refine c_region ?_
          refine l_pure S (p_eql rfl rfl) rfl rfl rfl ?_; clear S a; intro a S
          refine l_pure S (p_assign rfl) rfl rfl rfl ?_; clear S a; intro a S
          refine l_nil ?_
          refine e_then ?_
          refine c_cond S rfl (fun c21 => ?_) (fun c21 => ?_)
          · skip
            have c21 := eq_of_beq c21
            refine wp_skip ?_
            refine e_then ?_
            refine c_cond S rfl (fun c22 => ?_) (fun c22 => ?_)
            · skip
              have c22 := eq_of_beq c22
              refine wp_seq ?_
              refine d_start (id := 9) [] 5 #[false, false, false, false, false] H rfl rfl rfl (fun w H => ?_)
              refine d_pure (i := 0) #[true, false, false, false, false] S rfl (p_move rfl) (wanted_none rfl) rfl rfl (by kernel_rfl) (fun _ _ _ h => h) ?_; clear S a; intro a S
              refine d_pure (i := 1) #[true, true, false, false, false] S rfl (p_slice rfl (o_some rfl) (fun _ _ => o_none) (fun _ _ => o_none) (fun w => sl_byte_lo (l := l) (m := 1) Try.underlying65 sz5 rfl (by omega))) (wanted_none rfl) rfl rfl (by kernel_rfl) (fun _ _ _ h => h) ?_; clear S a; intro a S
              refine d_call (i := 2) #[true, true, true, false, false] S rfl rfl rfl Try.func51 rfl rfl (t_empty _) (wanted_none rfl) rfl rfl (by kernel_rfl) rfl ?_
              rintro e w ⟨q4, rfl, hq4, hb⟩
              replace H := H.later hb; clear hb
              refine ⟨_, rfl, H, ?_⟩; clear S a; intro a S
              refine d_call (i := 3) #[true, true, true, true, false] S rfl rfl rfl Try.func48 rfl rfl (t_equal (l.drop 1) [48, 13, 10] _ _ _ _ _ _ _ ((hr.off 1 hc).old H) hq4 (by rw [List.length_drop]; omega) (by decide) (by rw [List.length_drop]; omega) (by decide) (fun x hx => hl x (List.mem_of_mem_drop hx)) (by decide)) (wanted_none rfl) rfl rfl (by kernel_rfl) rfl ?_
              rintro e w ⟨rfl, hb⟩
              replace H := H.later hb; replace hq4 := hq4.later hb; clear hb
              refine ⟨_, rfl, H, ?_⟩; clear S a; intro a S
              refine d_pure (i := 4) #[true, true, true, true, true] S rfl (p_assign rfl) (wanted_none rfl) rfl rfl (by kernel_rfl) (fun _ _ _ h => h) ?_; clear S a; intro a S
              refine d_done (by kernel_rfl) ?_
              refine e_then ?_
              refine wp_ret ?_
              refine e_in_ret ?_
              refine e_then_ret ?_
              exact r_ret1 S rfl rfl ⟨(by congr 2; simp only [nullF, emptyF, streamF]; first | (simp_all; done) | grind), H.below⟩
            · skip
              have c22 := ne_of_beq_false c22
              refine wp_skip ?_
              refine e_in 0 ?_
              refine e_then ?_
              refine wp_seq ?_
              refine c_region ?_
              refine l_pure S (p_assign rfl) rfl rfl rfl ?_; clear S a; intro a S
              refine l_nil ?_
              refine e_then ?_
              refine wp_ret ?_
              exact r_ret1 S rfl rfl ⟨(by congr 2; simp only [nullF, emptyF, streamF]; first | (simp_all; done) | grind), H.below⟩
          · skip
            have c21 := ne_of_beq_false c21
            refine c_region ?_
            refine l_pure S (p_eql rfl rfl) rfl rfl rfl ?_; clear S a; intro a S
            refine l_pure S (p_assign rfl) rfl rfl rfl ?_; clear S a; intro a S
            refine l_nil ?_
            refine e_then ?_
            refine c_cond S rfl (fun c26 => ?_) (fun c26 => ?_)
            · skip
              have c26 := eq_of_beq c26
              refine wp_seq ?_
              refine d_start (id := 9) [] 5 #[false, false, false, false, false] H rfl rfl rfl (fun w H => ?_)
              refine d_pure (i := 0) #[true, false, false, false, false] S rfl (p_move rfl) (wanted_none rfl) rfl rfl (by kernel_rfl) (fun _ _ _ h => h) ?_; clear S a; intro a S
              refine d_pure (i := 1) #[true, true, false, false, false] S rfl (p_slice rfl (o_some rfl) (fun _ _ => o_none) (fun _ _ => o_none) (fun w => sl_byte_lo (l := l) (m := 1) Try.underlying65 sz5 rfl (by omega))) (wanted_none rfl) rfl rfl (by kernel_rfl) (fun _ _ _ h => h) ?_; clear S a; intro a S
              refine d_call (i := 2) #[true, true, true, false, false] S rfl rfl rfl Try.func51 rfl rfl (t_empty _) (wanted_none rfl) rfl rfl (by kernel_rfl) rfl ?_
              rintro e w ⟨q5, rfl, hq5, hb⟩
              replace H := H.later hb; clear hb
              refine ⟨_, rfl, H, ?_⟩; clear S a; intro a S
              refine d_call (i := 3) #[true, true, true, true, false] S rfl rfl rfl Try.func48 rfl rfl (t_equal (l.drop 1) [48, 13, 10] _ _ _ _ _ _ _ ((hr.off 1 hc).old H) hq5 (by rw [List.length_drop]; omega) (by decide) (by rw [List.length_drop]; omega) (by decide) (fun x hx => hl x (List.mem_of_mem_drop hx)) (by decide)) (wanted_none rfl) rfl rfl (by kernel_rfl) rfl ?_
              rintro e w ⟨rfl, hb⟩
              replace H := H.later hb; replace hq5 := hq5.later hb; clear hb
              refine ⟨_, rfl, H, ?_⟩; clear S a; intro a S
              refine d_pure (i := 4) #[true, true, true, true, true] S rfl (p_assign rfl) (wanted_none rfl) rfl rfl (by kernel_rfl) (fun _ _ _ h => h) ?_; clear S a; intro a S
              refine d_done (by kernel_rfl) ?_
              refine e_then ?_
              refine wp_ret ?_
              refine e_in_ret ?_
              refine e_then_ret ?_
              exact r_ret1 S rfl rfl ⟨(by congr 2; simp only [nullF, emptyF, streamF]; first | (simp_all; done) | grind), H.below⟩
            · skip
              have c26 := ne_of_beq_false c26
              refine wp_skip ?_
              refine e_in 0 ?_
              refine e_then ?_
              refine wp_seq ?_
              refine c_region ?_
              refine l_pure S (p_assign rfl) rfl rfl rfl ?_; clear S a; intro a S
              refine l_nil ?_
              refine e_then ?_
              refine wp_ret ?_
              exact r_ret1 S rfl rfl ⟨(by congr 2; simp only [nullF, emptyF, streamF]; first | (simp_all; done) | grind), H.below⟩
theorem isstream (l : List Int) (g o c : Nat) (w0 : World) (hr : RB w0 g o l) (hc : l.length ≤ c) (hs : l.length ≤ 1000000) (hl : ∀ x ∈ l, 0 ≤ x ∧ x ≤ 255) : Calls Try.prog 39 #[.slice (some ⟨g, o, none⟩) l.length c] w0 fun e w' => e = .returned (.bool (streamF l)) ∧ Below w0.heap.size w0 w' := by
  have H := HH.start w0
  refine c_enter (args := [.slice (some ⟨g, o, none⟩) l.length c]) (k := 19) Try.func39 rfl rfl rfl (fun a S => ?_)
  refine wp_seq ?_
  refine c_region ?_
  refine l_pure S (p_assign rfl) rfl rfl rfl ?_; clear S a; intro a S
  refine l_nil ?_
  refine e_then ?_
  refine wp_seq ?_
  refine wp_seq ?_
  refine c_region ?_
  refine l_pure S (p_move rfl) rfl rfl rfl ?_; clear S a; intro a S
  refine l_pure S (p_builtin (xs := [_]) rfl (fun _ _ _ => rfl)) rfl rfl rfl ?_; clear S a; intro a S
  refine l_pure S (p_eql rfl rfl) rfl rfl rfl ?_; clear S a; intro a S
  refine l_nil ?_
  refine e_then ?_
  refine c_cond S rfl (fun c3 => ?_) (fun c3 => ?_)
  · skip
    have c3 := eq_of_beq c3
    refine wp_seq ?_
    refine c_region ?_
    refine l_pure S (p_assign rfl) rfl rfl rfl ?_; clear S a; intro a S
    refine l_nil ?_
    refine e_then ?_
    refine wp_ret ?_
    refine e_then_ret ?_
    exact r_ret1 S rfl rfl ⟨(by congr 2; simp only [nullF, emptyF, streamF]; first | (simp_all; done) | grind), H.below⟩
  · skip
    have c3 := ne_of_beq_false c3
    refine wp_skip ?_
    refine e_then ?_
    refine wp_seq ?_
    refine wp_seq ?_
    refine c_region ?_
    refine l_pure S (p_move rfl) rfl rfl rfl ?_; clear S a; intro a S
    refine l_pure S (p_indexAddr rfl rfl (fun w => ia_slice Try.underlying65 sz5 (by omega) (by omega))) rfl rfl rfl ?_; clear S a; intro a S
    refine l_read S H (r_byte (l := l) (i := 0) (v := l.getD (0) 0) rfl (by omega) ag5 hr rfl (get_some 0 (by omega))) rfl rfl rfl ?_; clear S a; intro a S
    refine l_nil ?_
    refine e_then ?_
    refine wp_block ?_
    refine wp_seq ?_
    refine wp_seq ?_
    refine c_region ?_
    refine l_pure S (p_eql rfl rfl) rfl rfl rfl ?_; clear S a; intro a S
    refine l_pure S (p_assign rfl) rfl rfl rfl ?_; clear S a; intro a S
    refine l_nil ?_
    refine e_then ?_
    refine c_cond S rfl (fun c6 => ?_) (fun c6 => ?_)
    · skip
      have c6 := eq_of_beq c6
      refine wp_skip ?_
      refine e_then ?_
      refine c_cond S rfl (fun c7 => ?_) (fun c7 => ?_)
      · skip
        have c7 := eq_of_beq c7
        refine wp_seq ?_
        refine d_start (id := 10) [] 5 #[false, false, false, false, false] H rfl rfl rfl (fun w H => ?_)
        refine d_pure (i := 0) #[true, false, false, false, false] S rfl (p_move rfl) (wanted_none rfl) rfl rfl (by kernel_rfl) (fun _ _ _ h => h) ?_; clear S a; intro a S
        refine d_pure (i := 1) #[true, true, false, false, false] S rfl (p_slice rfl (o_some rfl) (fun _ _ => o_none) (fun _ _ => o_none) (fun w => sl_byte_lo (l := l) (m := 1) Try.underlying65 sz5 rfl (by omega))) (wanted_none rfl) rfl rfl (by kernel_rfl) (fun _ _ _ h => h) ?_; clear S a; intro a S
        refine d_call (i := 2) #[true, true, true, false, false] S rfl rfl rfl Try.func52 rfl rfl (t_streamed _) (wanted_none rfl) rfl rfl (by kernel_rfl) rfl ?_
        rintro e w ⟨q1, rfl, hq1, hb⟩
        replace H := H.later hb; clear hb
        refine ⟨_, rfl, H, ?_⟩; clear S a; intro a S
        refine d_call (i := 3) #[true, true, true, true, false] S rfl rfl rfl Try.func48 rfl rfl (t_equal (l.drop 1) [63, 13, 10] _ _ _ _ _ _ _ ((hr.off 1 hc).old H) hq1 (by rw [List.length_drop]; omega) (by decide) (by rw [List.length_drop]; omega) (by decide) (fun x hx => hl x (List.mem_of_mem_drop hx)) (by decide)) (wanted_none rfl) rfl rfl (by kernel_rfl) rfl ?_
        rintro e w ⟨rfl, hb⟩
        replace H := H.later hb; replace hq1 := hq1.later hb; clear hb
        refine ⟨_, rfl, H, ?_⟩; clear S a; intro a S
        refine d_pure (i := 4) #[true, true, true, true, true] S rfl (p_assign rfl) (wanted_none rfl) rfl rfl (by kernel_rfl) (fun _ _ _ h => h) ?_; clear S a; intro a S
        refine d_done (by kernel_rfl) ?_
        refine e_then ?_
        refine wp_ret ?_
        refine e_in_ret ?_
        refine e_then_ret ?_
        exact r_ret1 S rfl rfl ⟨(by congr 2; simp only [nullF, emptyF, streamF]; first | (simp_all; done) | grind), H.below⟩
      · skip
        have c7 := ne_of_beq_false c7
        refine wp_skip ?_
        refine e_in 0 ?_
        refine e_then ?_
        refine wp_seq ?_
        refine c_region ?_
        refine l_pure S (p_assign rfl) rfl rfl rfl ?_; clear S a; intro a S
        refine l_nil ?_
        refine e_then ?_
        refine wp_ret ?_
        exact r_ret1 S rfl rfl ⟨(by congr 2; simp only [nullF, emptyF, streamF]; first | (simp_all; done) | grind), H.below⟩
    · skip
      have c6 := ne_of_beq_false c6
      refine wp_seq ?_
      refine c_region ?_
      refine l_pure S (p_eql rfl rfl) rfl rfl rfl ?_; clear S a; intro a S
      refine l_pure S (p_assign rfl) rfl rfl rfl ?_; clear S a; intro a S
      refine l_nil ?_
      refine e_then ?_
      refine c_cond S rfl (fun c11 => ?_) (fun c11 => ?_)
      · skip
        have c11 := eq_of_beq c11
        refine wp_skip ?_
        refine e_then ?_
        refine c_cond S rfl (fun c12 => ?_) (fun c12 => ?_)
        · skip
          have c12 := eq_of_beq c12
          refine wp_seq ?_
          refine d_start (id := 10) [] 5 #[false, false, false, false, false] H rfl rfl rfl (fun w H => ?_)
          refine d_pure (i := 0) #[true, false, false, false, false] S rfl (p_move rfl) (wanted_none rfl) rfl rfl (by kernel_rfl) (fun _ _ _ h => h) ?_; clear S a; intro a S
          refine d_pure (i := 1) #[true, true, false, false, false] S rfl (p_slice rfl (o_some rfl) (fun _ _ => o_none) (fun _ _ => o_none) (fun w => sl_byte_lo (l := l) (m := 1) Try.underlying65 sz5 rfl (by omega))) (wanted_none rfl) rfl rfl (by kernel_rfl) (fun _ _ _ h => h) ?_; clear S a; intro a S
          refine d_call (i := 2) #[true, true, true, false, false] S rfl rfl rfl Try.func52 rfl rfl (t_streamed _) (wanted_none rfl) rfl rfl (by kernel_rfl) rfl ?_
          rintro e w ⟨q2, rfl, hq2, hb⟩
          replace H := H.later hb; clear hb
          refine ⟨_, rfl, H, ?_⟩; clear S a; intro a S
          refine d_call (i := 3) #[true, true, true, true, false] S rfl rfl rfl Try.func48 rfl rfl (t_equal (l.drop 1) [63, 13, 10] _ _ _ _ _ _ _ ((hr.off 1 hc).old H) hq2 (by rw [List.length_drop]; omega) (by decide) (by rw [List.length_drop]; omega) (by decide) (fun x hx => hl x (List.mem_of_mem_drop hx)) (by decide)) (wanted_none rfl) rfl rfl (by kernel_rfl) rfl ?_
          rintro e w ⟨rfl, hb⟩
          replace H := H.later hb; replace hq2 := hq2.later hb; clear hb
          refine ⟨_, rfl, H, ?_⟩; clear S a; intro a S
          refine d_pure (i := 4) #[true, true, true, true, true] S rfl (p_assign rfl) (wanted_none rfl) rfl rfl (by kernel_rfl) (fun _ _ _ h => h) ?_; clear S a; intro a S
          refine d_done (by kernel_rfl) ?_
          refine e_then ?_
          refine wp_ret ?_
          refine e_in_ret ?_
          refine e_then_ret ?_
          exact r_ret1 S rfl rfl ⟨(by congr 2; simp only [nullF, emptyF, streamF]; first | (simp_all; done) | grind), H.below⟩
        · skip
          have c12 := ne_of_beq_false c12
          refine wp_skip ?_
          refine e_in 0 ?_
          refine e_then ?_
          refine wp_seq ?_
          refine c_region ?_
          refine l_pure S (p_assign rfl) rfl rfl rfl ?_; clear S a; intro a S
          refine l_nil ?_
          refine e_then ?_
          refine wp_ret ?_
          exact r_ret1 S rfl rfl ⟨(by congr 2; simp only [nullF, emptyF, streamF]; first | (simp_all; done) | grind), H.below⟩
      · skip
        have c11 := ne_of_beq_false c11
        refine wp_seq ?_
        refine c_region ?_
        refine l_pure S (p_eql rfl rfl) rfl rfl rfl ?_; clear S a; intro a S
        refine l_pure S (p_assign rfl) rfl rfl rfl ?_; clear S a; intro a S
        refine l_nil ?_
        refine e_then ?_
        refine c_cond S rfl (fun c16 => ?_) (fun c16 => ?_)
        · skip
          have c16 := eq_of_beq c16
          refine wp_skip ?_
          refine e_then ?_
          refine c_cond S rfl (fun c17 => ?_) (fun c17 => ?_)
          · skip
            have c17 := eq_of_beq c17
            refine wp_seq ?_
            refine d_start (id := 10) [] 5 #[false, false, false, false, false] H rfl rfl rfl (fun w H => ?_)
            refine d_pure (i := 0) #[true, false, false, false, false] S rfl (p_move rfl) (wanted_none rfl) rfl rfl (by kernel_rfl) (fun _ _ _ h => h) ?_; clear S a; intro a S
            refine d_pure (i := 1) #[true, true, false, false, false] S rfl (p_slice rfl (o_some rfl) (fun _ _ => o_none) (fun _ _ => o_none) (fun w => sl_byte_lo (l := l) (m := 1) Try.underlying65 sz5 rfl (by omega))) (wanted_none rfl) rfl rfl (by kernel_rfl) (fun _ _ _ h => h) ?_; clear S a; intro a S
            refine d_call (i := 2) #[true, true, true, false, false] S rfl rfl rfl Try.func52 rfl rfl (t_streamed _) (wanted_none rfl) rfl rfl (by kernel_rfl) rfl ?_
            rintro e w ⟨q3, rfl, hq3, hb⟩
            replace H := H.later hb; clear hb
            refine ⟨_, rfl, H, ?_⟩; clear S a; intro a S
            refine d_call (i := 3) #[true, true, true, true, false] S rfl rfl rfl Try.func48 rfl rfl (t_equal (l.drop 1) [63, 13, 10] _ _ _ _ _ _ _ ((hr.off 1 hc).old H) hq3 (by rw [List.length_drop]; omega) (by decide) (by rw [List.length_drop]; omega) (by decide) (fun x hx => hl x (List.mem_of_mem_drop hx)) (by decide)) (wanted_none rfl) rfl rfl (by kernel_rfl) rfl ?_
            rintro e w ⟨rfl, hb⟩
            replace H := H.later hb; replace hq3 := hq3.later hb; clear hb
            refine ⟨_, rfl, H, ?_⟩; clear S a; intro a S
            refine d_pure (i := 4) #[true, true, true, true, true] S rfl (p_assign rfl) (wanted_none rfl) rfl rfl (by kernel_rfl) (fun _ _ _ h => h) ?_; clear S a; intro a S
            refine d_done (by kernel_rfl) ?_
            refine e_then ?_
            refine wp_ret ?_
            refine e_in_ret ?_
            refine e_then_ret ?_
            exact r_ret1 S rfl rfl ⟨(by congr 2; simp only [nullF, emptyF, streamF]; first | (simp_all; done) | grind), H.below⟩
          · skip
            have c17 := ne_of_beq_false c17
            refine wp_skip ?_
            refine e_in 0 ?_
            refine e_then ?_
            refine wp_seq ?_
            refine c_region ?_
            refine l_pure S (p_assign rfl) rfl rfl rfl ?_; clear S a; intro a S
            refine l_nil ?_
            refine e_then ?_
            refine wp_ret ?_
            exact r_ret1 S rfl rfl ⟨(by congr 2; simp only [nullF, emptyF, streamF]; first | (simp_all; done) | grind), H.below⟩
        · skip
          have c16 := ne_of_beq_false c16
          refine wp_seq ?_
          refine c_region ?_
          refine l_pure S (p_eql rfl rfl) rfl rfl rfl ?_; clear S a; intro a S
          refine l_pure S (p_assign rfl) rfl rfl rfl ?_; clear S a; intro a S
          refine l_nil ?_
          refine e_then ?_
          refine c_cond S rfl (fun c21 => ?_) (fun c21 => ?_)
          · skip
            have c21 := eq_of_beq c21
            refine wp_skip ?_
            refine e_then ?_
            refine c_cond S rfl (fun c22 => ?_) (fun c22 => ?_)
            · skip
              have c22 := eq_of_beq c22
              refine wp_seq ?_
              refine d_start (id := 10) [] 5 #[false, false, false, false, false] H rfl rfl rfl (fun w H => ?_)
              refine d_pure (i := 0) #[true, false, false, false, false] S rfl (p_move rfl) (wanted_none rfl) rfl rfl (by kernel_rfl) (fun _ _ _ h => h) ?_; clear S a; intro a S
              refine d_pure (i := 1) #[true, true, false, false, false] S rfl (p_slice rfl (o_some rfl) (fun _ _ => o_none) (fun _ _ => o_none) (fun w => sl_byte_lo (l := l) (m := 1) Try.underlying65 sz5 rfl (by omega))) (wanted_none rfl) rfl rfl (by kernel_rfl) (fun _ _ _ h => h) ?_; clear S a; intro a S
              refine d_call (i := 2) #[true, true, true, false, false] S rfl rfl rfl Try.func52 rfl rfl (t_streamed _) (wanted_none rfl) rfl rfl (by kernel_rfl) rfl ?_
              rintro e w ⟨q4, rfl, hq4, hb⟩
              replace H := H.later hb; clear hb
              refine ⟨_, rfl, H, ?_⟩; clear S a; intro a S
              refine d_call (i := 3) #[true, true, true, true, false] S rfl rfl rfl Try.func48 rfl rfl (t_equal (l.drop 1) [63, 13, 10] _ _ _ _ _ _ _ ((hr.off 1 hc).old H) hq4 (by rw [List.length_drop]; omega) (by decide) (by rw [List.length_drop]; omega) (by decide) (fun x hx => hl x (List.mem_of_mem_drop hx)) (by decide)) (wanted_none rfl) rfl rfl (by kernel_rfl) rfl ?_
              rintro e w ⟨rfl, hb⟩
              replace H := H.later hb; replace hq4 := hq4.later hb; clear hb
              refine ⟨_, rfl, H, ?_⟩; clear S a; intro a S
              refine d_pure (i := 4) #[true, true, true, true, true] S rfl (p_assign rfl) (wanted_none rfl) rfl rfl (by kernel_rfl) (fun _ _ _ h => h) ?_; clear S a; intro a S
              refine d_done (by kernel_rfl) ?_
              refine e_then ?_
              refine wp_ret ?_
              refine e_in_ret ?_
              refine e_then_ret ?_
              exact r_ret1 S rfl rfl ⟨(by congr 2; simp only [nullF, emptyF, streamF]; first | (simp_all; done) | grind), H.below⟩
            · skip
              have c22 := ne_of_beq_false c22
              refine wp_skip ?_
              refine e_in 0 ?_
              refine e_then ?_
              refine wp_seq ?_
              refine c_region ?_
              refine l_pure S (p_assign rfl) rfl rfl rfl ?_; clear S a; intro a S
              refine l_nil ?_
              refine e_then ?_
              refine wp_ret ?_
              exact r_ret1 S rfl rfl ⟨(by congr 2; simp only [nullF, emptyF, streamF]; first | (simp_all; done) | grind), H.below⟩
          · skip
            have c21 := ne_of_beq_false c21
            refine wp_seq ?_
            refine c_region ?_
            refine l_pure S (p_eql rfl rfl) rfl rfl rfl ?_; clear S a; intro a S
            refine l_pure S (p_assign rfl) rfl rfl rfl ?_; clear S a; intro a S
            refine l_nil ?_
            refine e_then ?_
            refine c_cond S rfl (fun c26 => ?_) (fun c26 => ?_)
            · skip
              have c26 := eq_of_beq c26
              refine wp_skip ?_
              refine e_then ?_
              refine c_cond S rfl (fun c27 => ?_) (fun c27 => ?_)
              · skip
                have c27 := eq_of_beq c27
                refine wp_seq ?_
                refine d_start (id := 10) [] 5 #[false, false, false, false, false] H rfl rfl rfl (fun w H => ?_)
                refine d_pure (i := 0) #[true, false, false, false, false] S rfl (p_move rfl) (wanted_none rfl) rfl rfl (by kernel_rfl) (fun _ _ _ h => h) ?_; clear S a; intro a S
                refine d_pure (i := 1) #[true, true, false, false, false] S rfl (p_slice rfl (o_some rfl) (fun _ _ => o_none) (fun _ _ => o_none) (fun w => sl_byte_lo (l := l) (m := 1) Try.underlying65 sz5 rfl (by omega))) (wanted_none rfl) rfl rfl (by kernel_rfl) (fun _ _ _ h => h) ?_; clear S a; intro a S
                refine d_call (i := 2) #[true, true, true, false, false] S rfl rfl rfl Try.func52 rfl rfl (t_streamed _) (wanted_none rfl) rfl rfl (by kernel_rfl) rfl ?_
                rintro e w ⟨q5, rfl, hq5, hb⟩
                replace H := H.later hb; clear hb
                refine ⟨_, rfl, H, ?_⟩; clear S a; intro a S
                refine d_call (i := 3) #[true, true, true, true, false] S rfl rfl rfl Try.func48 rfl rfl (t_equal (l.drop 1) [63, 13, 10] _ _ _ _ _ _ _ ((hr.off 1 hc).old H) hq5 (by rw [List.length_drop]; omega) (by decide) (by rw [List.length_drop]; omega) (by decide) (fun x hx => hl x (List.mem_of_mem_drop hx)) (by decide)) (wanted_none rfl) rfl rfl (by kernel_rfl) rfl ?_
                rintro e w ⟨rfl, hb⟩
                replace H := H.later hb; replace hq5 := hq5.later hb; clear hb
                refine ⟨_, rfl, H, ?_⟩; clear S a; intro a S
                refine d_pure (i := 4) #[true, true, true, true, true] S rfl (p_assign rfl) (wanted_none rfl) rfl rfl (by kernel_rfl) (fun _ _ _ h => h) ?_; clear S a; intro a S
                refine d_done (by kernel_rfl) ?_
                refine e_then ?_
                refine wp_ret ?_
                refine e_in_ret ?_
                refine e_then_ret ?_
                exact r_ret1 S rfl rfl ⟨(by congr 2; simp only [nullF, emptyF, streamF]; first | (simp_all; done) | grind), H.below⟩
              · skip
                have c27 := ne_of_beq_false c27
                refine wp_skip ?_
                refine e_in 0 ?_
                refine e_then ?_
                refine wp_seq ?_
                refine c_region ?_
                refine l_pure S (p_assign rfl) rfl rfl rfl ?_; clear S a; intro a S
                refine l_nil ?_
                refine e_then ?_
                refine wp_ret ?_
                exact r_ret1 S rfl rfl ⟨(by congr 2; simp only [nullF, emptyF, streamF]; first | (simp_all; done) | grind), H.below⟩
            · skip
              have c26 := ne_of_beq_false c26
              refine c_region ?_
              refine l_pure S (p_eql rfl rfl) rfl rfl rfl ?_; clear S a; intro a S
              refine l_pure S (p_assign rfl) rfl rfl rfl ?_; clear S a; intro a S
              refine l_nil ?_
              refine e_then ?_
              refine c_cond S rfl (fun c31 => ?_) (fun c31 => ?_)
              · skip
                have c31 := eq_of_beq c31
                refine wp_seq ?_
                refine d_start (id := 10) [] 5 #[false, false, false, false, false] H rfl rfl rfl (fun w H => ?_)
                refine d_pure (i := 0) #[true, false, false, false, false] S rfl (p_move rfl) (wanted_none rfl) rfl rfl (by kernel_rfl) (fun _ _ _ h => h) ?_; clear S a; intro a S
                refine d_pure (i := 1) #[true, true, false, false, false] S rfl (p_slice rfl (o_some rfl) (fun _ _ => o_none) (fun _ _ => o_none) (fun w => sl_byte_lo (l := l) (m := 1) Try.underlying65 sz5 rfl (by omega))) (wanted_none rfl) rfl rfl (by kernel_rfl) (fun _ _ _ h => h) ?_; clear S a; intro a S
                refine d_call (i := 2) #[true, true, true, false, false] S rfl rfl rfl Try.func52 rfl rfl (t_streamed _) (wanted_none rfl) rfl rfl (by kernel_rfl) rfl ?_
                rintro e w ⟨q6, rfl, hq6, hb⟩
                replace H := H.later hb; clear hb
                refine ⟨_, rfl, H, ?_⟩; clear S a; intro a S
                refine d_call (i := 3) #[true, true, true, true, false] S rfl rfl rfl Try.func48 rfl rfl (t_equal (l.drop 1) [63, 13, 10] _ _ _ _ _ _ _ ((hr.off 1 hc).old H) hq6 (by rw [List.length_drop]; omega) (by decide) (by rw [List.length_drop]; omega) (by decide) (fun x hx => hl x (List.mem_of_mem_drop hx)) (by decide)) (wanted_none rfl) rfl rfl (by kernel_rfl) rfl ?_
                rintro e w ⟨rfl, hb⟩
                replace H := H.later hb; replace hq6 := hq6.later hb; clear hb
                refine ⟨_, rfl, H, ?_⟩; clear S a; intro a S
                refine d_pure (i := 4) #[true, true, true, true, true] S rfl (p_assign rfl) (wanted_none rfl) rfl rfl (by kernel_rfl) (fun _ _ _ h => h) ?_; clear S a; intro a S
                refine d_done (by kernel_rfl) ?_
                refine e_then ?_
                refine wp_ret ?_
                refine e_in_ret ?_
                refine e_then_ret ?_
                exact r_ret1 S rfl rfl ⟨(by congr 2; simp only [nullF, emptyF, streamF]; first | (simp_all; done) | grind), H.below⟩
              · skip
                have c31 := ne_of_beq_false c31
                refine wp_skip ?_
                refine e_in 0 ?_
                refine e_then ?_
                refine wp_seq ?_
                refine c_region ?_
                refine l_pure S (p_assign rfl) rfl rfl rfl ?_; clear S a; intro a S
                refine l_nil ?_
                refine e_then ?_
                refine wp_ret ?_
                exact r_ret1 S rfl rfl ⟨(by congr 2; simp only [nullF, emptyF, streamF]; first | (simp_all; done) | grind), H.below⟩
theorem idle36 (p q r s : Addr) (w : World) :
    CallsD Try.prog 36 #[.pointer (some p), .pointer (some q), .pointer (some r), .pointer (some s)] .returning w fun e u' w' => e = .returned (.tuple #[]) ∧ u' = .returning ∧ w' = w := by
  refine callsD_of_wpS Try.func36 rfl fun c₀ cs hu => ?_
  apply wpS_seq
  apply wpS_region
  simp [wpOpsS, go_sem, recoverD, hu, Try.ntmps36, Exit.thenS]
  refine wpS_cond (t := false) (by simp [Act.eval, Array.replicate]) ?_
  simp only [Bool.false_eq_true, if_false]
  refine wpS_of_wp (wp_skip ?_)
  cases c₀
  simp_all [bodyPostS, results, Try.results36]
theorem tells21 (s : ByteArray) (w0 : World) (hs : (ints s).length ≤ 1000000) : Calls Try.prog 21 #[.string s] w0 fun e w' => e = .returned (.tuple #[.bool (nullF (ints s)), .bool (emptyF (ints s)), .bool (streamF (ints s)), .bool true]) ∧ Below w0.heap.size w0 w' := by
  have H := HH.start w0
  refine c_enter_d (args := [.string s]) (k := 15) Try.func21 rfl rfl rfl (fun a S => ?_)
  refine wp_seq ?_
  refine c_region ?_
  refine l_alloc (cs := _) S H rfl (fun w => al zv4) rfl rfl rfl ?_; clear S a H; intro g1 w a H S
  refine l_alloc (cs := _) S H rfl (fun w => al zv4) rfl rfl rfl ?_; clear S a H; intro g2 w a H S
  refine l_alloc (cs := _) S H rfl (fun w => al zv4) rfl rfl rfl ?_; clear S a H; intro g3 w a H S
  refine l_alloc (cs := _) S H rfl (fun w => al zv4) rfl rfl rfl ?_; clear S a H; intro g4 w a H S
  refine l_nil ?_
  refine e_then ?_
  refine wp_seq ?_
  refine c_region ?_
  refine l_pure S (p_func rfl rfl) rfl rfl rfl ?_; clear S a; intro a S
  refine l_defer (xs := []) (us := []) (vs := []) S rfl rfl rfl rfl rfl ?_; clear S a; intro a S
  refine l_nil ?_
  refine e_then ?_
  refine wp_seq ?_
  refine c_region ?_
  refine l_pure S (p_move rfl) rfl rfl rfl ?_; clear S a; intro a S
  refine l_bytes S H rfl rfl Try.underlying9 Try.underlying65 Try.underlying5 rfl rfl rfl ?_; clear S a H; intro g5 cap cs f w a H hcap hcs S
  have hrb := RB.of H List.mem_cons_self hcs
  rw [← ints_len] at hcap
  refine l_pure S (p_assign rfl) rfl rfl rfl ?_; clear S a; intro a S
  refine l_nil ?_
  refine e_then ?_
  refine wp_seq ?_
  refine c_region ?_
  refine l_pure S (p_move rfl) rfl rfl rfl ?_; clear S a; intro a S
  refine l_call S rfl rfl Try.func37 rfl rfl (isnull (ints s) _ _ _ _ hrb hcap hs (ints_range s)) rfl rfl rfl ?_
  rintro e w ⟨rfl, hb⟩
  refine ⟨_, rfl, ?_⟩; clear S a; intro a S
  replace H := H.later hb; replace hrb := hrb.later hb; clear hb
  refine l_pure S (p_move rfl) rfl rfl rfl ?_; clear S a; intro a S
  refine l_call S rfl rfl Try.func38 rfl rfl (isempty (ints s) _ _ _ _ hrb hcap hs (ints_range s)) rfl rfl rfl ?_
  rintro e w ⟨rfl, hb⟩
  refine ⟨_, rfl, ?_⟩; clear S a; intro a S
  replace H := H.later hb; replace hrb := hrb.later hb; clear hb
  refine l_pure S (p_move rfl) rfl rfl rfl ?_; clear S a; intro a S
  refine l_call S rfl rfl Try.func39 rfl rfl (isstream (ints s) _ _ _ _ hrb hcap hs (ints_range s)) rfl rfl rfl ?_
  rintro e w ⟨rfl, hb⟩
  refine ⟨_, rfl, ?_⟩; clear S a; intro a S
  replace H := H.later hb; replace hrb := hrb.later hb; clear hb
  refine l_store S H rfl rfl rfl (.there (.there (.there (.there .here)))) (by decide) (fun w u hc hz => st1 sz4 rfl hc hz) rfl rfl ?_; clear S a H; intro w a H S
  refine l_store S H rfl rfl rfl (.there (.there (.there .here))) (by decide) (fun w u hc hz => st1 sz4 rfl hc hz) rfl rfl ?_; clear S a H; intro w a H S
  refine l_store S H rfl rfl rfl (.there (.there .here)) (by decide) (fun w u hc hz => st1 sz4 rfl hc hz) rfl rfl ?_; clear S a H; intro w a H S
  refine l_store S H rfl rfl rfl (.there .here) (by decide) (fun w u hc hz => st1 sz4 rfl hc hz) rfl rfl ?_; clear S a H; intro w a H S
  refine l_nil ?_
  refine e_then ?_
  refine wp_ret ?_
  exact r_door (v := .tuple #[.bool (nullF (ints s)), .bool (emptyF (ints s)), .bool (streamF (ints s)), .bool true]) S (idle36 _ _ _ _) (invokes Try.func36 rfl rfl) (res_c4 rfl rfl rfl rfl rfl (lv ag4 H (List.mem_cons_of_mem _ (List.mem_cons_of_mem _ (List.mem_cons_of_mem _ (List.mem_cons_of_mem _ List.mem_cons_self)))) rfl) (lv ag4 H (List.mem_cons_of_mem _ (List.mem_cons_of_mem _ (List.mem_cons_of_mem _ List.mem_cons_self))) rfl) (lv ag4 H (List.mem_cons_of_mem _ (List.mem_cons_of_mem _ List.mem_cons_self)) rfl) (lv ag4 H (List.mem_cons_of_mem _ List.mem_cons_self) rfl)) ⟨rfl, H.below⟩
end Go.Proofs.Ytcjdadfiedoflaa.tells.t
