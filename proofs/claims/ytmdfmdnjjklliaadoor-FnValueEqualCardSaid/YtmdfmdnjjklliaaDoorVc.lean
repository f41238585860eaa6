/- FnValueEqual: the law, walked. -/
import Derived.Test.YtmdfmdnjjklliaaDoorVb
import Derived.Test.YtmdfmdnjjklliaaDoorWEqStruct
import Derived.Test.YtmdfmdnjjklliaaDoorLr
namespace Go.Proofs.YtmdfmdnjjklliaaDoor.ve
open Go.RowKit Go.Proofs.HHW Go.Proofs.YtmdfmdnjjklliaaDoorW.PrintWords
set_option linter.unusedVariables false
set_option linter.unusedSimpArgs false
namespace la
theorem ag25 : aggB Tryd.prog 25 = some true := by kernel_rfl
theorem ag3 : aggB Tryd.prog 3 = some false := by kernel_rfl
theorem ag36 : aggB Tryd.prog 36 = some true := by kernel_rfl
theorem ag4 : aggB Tryd.prog 4 = some false := by kernel_rfl
theorem ag9 : aggB Tryd.prog 9 = some false := by kernel_rfl
theorem fa25_0 (w : World) (g o : Nat) : (Instr.fieldAt 25 (.pointer (some ⟨g, o, none⟩)) 0).run Tryd.prog w = .ok (.pointer (some ⟨g, o + 0, none⟩)) w := by kernel_rfl
theorem fa25_1 (w : World) (g o : Nat) : (Instr.fieldAt 25 (.pointer (some ⟨g, o, none⟩)) 1).run Tryd.prog w = .ok (.pointer (some ⟨g, o + 1, none⟩)) w := by kernel_rfl
theorem sz25 : szB Tryd.prog 25 = some 6 := by kernel_rfl
theorem sz36 : szB Tryd.prog 36 = some 3 := by kernel_rfl
theorem sz4 : szB Tryd.prog 4 = some 1 := by kernel_rfl
theorem zv25 : zvB Tryd.prog 25 = some (.agg #[.int .i64 0, .string ⟨#[]⟩, .int .i64 0, .int .u64 0, .float .f64 0, .bool false]) := by kernel_rfl
theorem zv36 : zvB Tryd.prog 36 = some (.agg #[.int .u64 0, .slice none 0 0, .int .u8 0]) := by kernel_rfl
theorem zv4 : zvB Tryd.prog 4 = some (.bool false) := by kernel_rfl

theorem litV (w : World) (k1 : Int) (s1 : ByteArray) (n1 u1 : Int) (f1 : Nat) (b1 : Bool) (k2 : Int) (s2 : ByteArray) (n2 u2 : Int) (f2 : Nat) (b2 : Bool) : (Instr.buildSlice 32 2 #[(0, (.agg #[.int .i64 k1, .string s1, .int .i64 n1, .int .u64 u1, .float .f64 f1, .bool b1])), (1, (.agg #[.int .i64 k2, .string s2, .int .i64 n2, .int .u64 u2, .float .f64 f2, .bool b2]))]).run Tryd.prog w = .ok (.slice (some ⟨w.heap.size, 0, none⟩) 2 2) (w.alloc (.cells #[.int .i64 k1, .string s1, .int .i64 n1, .int .u64 u1, .float .f64 f1, .bool b1, .int .i64 k2, .string s2, .int .i64 n2, .int .u64 u2, .float .f64 f2, .bool b2] 25 (0, 0))) := by kernel_rfl
theorem eqg (w : World) (x y : Operand) (a b : Array Value) : (eqGuard .eql 25 x y (.agg a) (.agg b)).run Tryd.prog w = .ok () w := by kernel_rfl
theorem stV : Tryd.prog.stoodInHeld 25 = false := by kernel_rfl
theorem eqV (w : World) (k1 : Int) (s1 : ByteArray) (n1 u1 : Int) (f1 : Nat) (b1 : Bool) (k2 : Int) (s2 : ByteArray) (n2 u2 : Int) (f2 : Nat) (b2 : Bool) : (binOp .eql 25 (.agg #[.int .i64 k1, .string s1, .int .i64 n1, .int .u64 u1, .float .f64 f1, .bool b1]) (.agg #[.int .i64 k2, .string s2, .int .i64 n2, .int .u64 u2, .float .f64 f2, .bool b2])).run Tryd.prog w = .ok (.bool (k1 == k2 && (s1 == s2 && (n1 == n2 && (u1 == u2 && (Op.floatEq .f64 f1 f2 && b1 == b2)))))) w := by
  show ((Op.equal 25 (.agg #[.int .i64 k1, .string s1, .int .i64 n1, .int .u64 u1, .float .f64 f1, .bool b1]) (.agg #[.int .i64 k2, .string s2, .int .i64 n2, .int .u64 u2, .float .f64 f2, .bool b2])) >>= fun r => pure (Value.bool r)).run Tryd.prog w = _
  have h : (Op.equalIn 10000 25 (.agg #[.int .i64 k1, .string s1, .int .i64 n1, .int .u64 u1, .float .f64 f1, .bool b1]) (.agg #[.int .i64 k2, .string s2, .int .i64 n2, .int .u64 u2, .float .f64 f2, .bool b2])).run Tryd.prog w = .ok (k1 == k2 && (s1 == s2 && (n1 == n2 && (u1 == u2 && (Op.floatEq .f64 f1 f2 && b1 == b2))))) w := eqA_of Tryd.underlying25 stV (eqf_cons (a := .int .i64 k1) (b := .int .i64 k2) rfl (by kernel_rfl) (by kernel_rfl) (by kernel_rfl) (eqf_cons (a := .string s1) (b := .string s2) rfl (by kernel_rfl) (by kernel_rfl) (by kernel_rfl) (eqf_cons (a := .int .i64 n1) (b := .int .i64 n2) rfl (by kernel_rfl) (by kernel_rfl) (by kernel_rfl) (eqf_cons (a := .int .u64 u1) (b := .int .u64 u2) rfl (by kernel_rfl) (by kernel_rfl) (by kernel_rfl) (eqf_cons (a := .float .f64 f1) (b := .float .f64 f2) rfl (by kernel_rfl) (by kernel_rfl) (by kernel_rfl) (eqf_last (a := .bool b1) (b := .bool b2) rfl (by kernel_rfl) (by kernel_rfl) (by kernel_rfl)))))))
  rw [Sem.run_bind, show (Op.equal 25 (.agg #[.int .i64 k1, .string s1, .int .i64 n1, .int .u64 u1, .float .f64 f1, .bool b1]) (.agg #[.int .i64 k2, .string s2, .int .i64 n2, .int .u64 u2, .float .f64 f2, .bool b2])).run Tryd.prog w = _ from h]
  rfl
theorem fits_ (wb w0 : World) (B : Nat) (L0 : List (Nat × Obj)) (k : Int) (s : ByteArray) (n u : Int) (f : Nat) (b : Bool) (H : HH B wb w0 L0) : Calls Tryd.prog 4 #[.agg #[.int .i64 k, .string s, .int .i64 n, .int .u64 u, .float .f64 f, .bool b]] w0 fun e w' => ∃ r, e = .returned (.bool r) ∧ (r = true → s.size ≤ 2147483647) ∧ HH B wb w' L0 := by
  refine c_enter (args := [.agg #[.int .i64 k, .string s, .int .i64 n, .int .u64 u, .float .f64 f, .bool b]]) (k := 6) Tryd.func4 rfl rfl rfl (fun a S => ?_)
  refine wp_seq ?_
  refine c_region ?_
  refine l_box (cs := #[.int .i64 k, .string s, .int .i64 n, .int .u64 u, .float .f64 f, .bool b]) S H rfl rfl (fun w => bx) rfl rfl rfl ?_; clear S a H; intro g1 w a H S
  refine l_pure S (p_assign rfl) rfl rfl rfl ?_; clear S a; intro a S
  refine l_nil ?_
  refine e_then ?_
  refine wp_seq ?_
  refine wp_seq ?_
  refine c_region ?_
  refine l_pure S (p_fieldAddr rfl (fun w => fa25_1 w _ _)) rfl rfl rfl ?_; clear S a; intro a S
  refine l_read S H (r_load rfl List.mem_cons_self rfl (fun w hc => ld1 ag9 hc)) rfl rfl rfl ?_; clear S a; intro a S
  refine l_pure S (p_lens Tryd.underlying9 rfl) rfl rfl rfl ?_; clear S a; intro a S
  refine l_pure S (p_gtr rfl rfl) rfl rfl rfl ?_; clear S a; intro a S
  refine l_nil ?_
  refine e_then ?_
  refine c_cond S rfl (fun c4 => ?_) (fun c4 => ?_)
  · skip
    have c4 := of_decide_eq_true c4
    refine wp_seq ?_
    refine c_region ?_
    refine l_pure S (p_assign rfl) rfl rfl rfl ?_; clear S a; intro a S
    refine l_nil ?_
    refine e_then ?_
    refine wp_ret ?_
    refine e_then_ret ?_
    exact r_ret1 S rfl rfl ⟨false, rfl, (fun h => by cases h), H.tail⟩
  · skip
    have c4 := of_decide_eq_false c4
    refine wp_skip ?_
    refine e_then ?_
    refine wp_seq ?_
    refine c_region ?_
    refine l_pure S (p_assign rfl) rfl rfl rfl ?_; clear S a; intro a S
    refine l_nil ?_
    refine e_then ?_
    refine wp_ret ?_
    exact r_ret1 S rfl rfl ⟨true, rfl, (fun _ => by omega), H.tail⟩
theorem kinds_ (wb w0 : World) (B : Nat) (L0 : List (Nat × Obj)) (g : Nat) (k1 : Int) (s1 : ByteArray) (n1 u1 : Int) (f1 : Nat) (b1 : Bool) (k2 : Int) (s2 : ByteArray) (n2 u2 : Int) (f2 : Nat) (b2 : Bool) (H : HH B wb w0 ((g, .cells #[.int .i64 k1, .string s1, .int .i64 n1, .int .u64 u1, .float .f64 f1, .bool b1, .int .i64 k2, .string s2, .int .i64 n2, .int .u64 u2, .float .f64 f2, .bool b2] 25 (0, 0)) :: L0)) : Calls Tryd.prog 5 #[.slice (some ⟨g, 0, none⟩) 2 2] w0 fun e w' => ∃ r, e = .returned (.bool r) ∧ (r = true → (0 ≤ k1 ∧ k1 ≤ 255 ∧ s1.size ≤ 800) ∧ (0 ≤ k2 ∧ k2 ≤ 255 ∧ s2.size ≤ 800)) ∧ HH B wb w' ((g, .cells #[.int .i64 k1, .string s1, .int .i64 n1, .int .u64 u1, .float .f64 f1, .bool b1, .int .i64 k2, .string s2, .int .i64 n2, .int .u64 u2, .float .f64 f2, .bool b2] 25 (0, 0)) :: L0) := by
  refine c_enter (args := [.slice (some ⟨g, 0, none⟩) 2 2]) (k := 25) Tryd.func5 rfl rfl rfl (fun a S => ?_)
  refine wp_seq ?_
  refine c_region ?_
  refine l_pure S (p_assign rfl) rfl rfl rfl ?_; clear S a; intro a S
  refine l_nil ?_
  refine e_then ?_
  refine wp_seq ?_
  refine wp_seq ?_
  refine c_region ?_
  refine l_pure S (p_move rfl) rfl rfl rfl ?_; clear S a; intro a S
  refine l_pure S (p_len Tryd.underlying32 rfl) rfl rfl rfl ?_; clear S a; intro a S
  refine l_pure S (p_move rfl) rfl rfl rfl ?_; clear S a; intro a S
  refine l_nil ?_
  refine e_then ?_
  refine wp_block ?_
  refine c_loop (σ := Nat) (fun s_ a w => match s_ with | j => SL a 26 [] [(5, .slice (some ⟨g, 0, none⟩) 2 2), (6, .int .i64 ((2 : Nat) : Int)), (7, .int .i64 (j : Int))] ∧ HH (B) wb w ((g, .cells #[.int .i64 k1, .string s1, .int .i64 n1, .int .u64 u1, .float .f64 f1, .bool b1, .int .i64 k2, .string s2, .int .i64 n2, .int .u64 u2, .float .f64 f2, .bool b2] 25 (0, 0)) :: L0) ∧ (j ≤ 2 ∧ (1 ≤ j → (0 ≤ k1 ∧ k1 ≤ 255 ∧ s1.size ≤ 800)) ∧ (2 ≤ j → (0 ≤ k2 ∧ k2 ≤ 255 ∧ s2.size ≤ 800)))) (fun s_ => match s_ with | j => 2 - j) 0 ⟨S.only ⟨rfl, rfl, rfl, trivial⟩, H, ⟨by omega, by omega, by omega⟩⟩ ?_
  clear S a H; rintro j a w ⟨S, H, hinv⟩
  rcases (show j = 0 ∨ j = 1 ∨ j = 2 by omega) with rfl | rfl | rfl
  · skip
    refine wp_seq ?_
    refine c_region ?_
    refine l_pure S (p_lss rfl rfl) rfl rfl rfl ?_; clear S a; intro a S
    refine l_nil ?_
    refine e_then ?_
    refine wp_seq ?_
    refine c_cond (b := true) S rfl (fun _ => ?_) (fun h => by cases h)
    refine wp_skip ?_
    refine e_then ?_
    refine wp_seq ?_
    refine wp_block ?_
    refine wp_seq ?_
    refine c_region ?_
    refine l_pure S (p_indexAddr (v := .pointer (some ⟨g, 0, none⟩)) rfl rfl (fun w => ia_slice Tryd.underlying32 sz25 (by decide) (by decide))) rfl rfl rfl ?_; clear S a; intro a S
    refine l_read S H (r_loadn (m := 6) (vs := [.int .i64 k1, .string s1, .int .i64 n1, .int .u64 u1, .float .f64 f1, .bool b1]) rfl List.mem_cons_self ag25 sz25 rfl rfl) rfl rfl rfl ?_; clear S a; intro a S
    refine l_alloc (cs := #[.int .i64 0, .string ⟨#[]⟩, .int .i64 0, .int .u64 0, .float .f64 0, .bool false]) S H rfl (fun w => al zv25) rfl rfl rfl ?_; clear S a H; intro g4 w a H S
    refine l_storeAll (vs := [.int .i64 k1, .string s1, .int .i64 n1, .int .u64 u1, .float .f64 f1, .bool b1]) S H rfl rfl rfl sz25 .here rfl (fun v hv => by simp only [List.mem_cons, List.not_mem_nil, or_false] at hv; rcases hv with rfl | rfl | rfl | rfl | rfl | rfl <;> rfl) rfl rfl ?_; clear S a H; intro w a H S
    refine l_nil ?_
    refine e_then ?_
    refine wp_seq ?_
    refine c_region ?_
    refine l_pure S (p_fieldAddr rfl (fun w => fa25_0 w _ _)) rfl rfl rfl ?_; clear S a; intro a S
    refine l_read S H (r_load rfl List.mem_cons_self rfl (fun w hc => ld1 ag3 hc)) rfl rfl rfl ?_; clear S a; intro a S
    refine l_pure S (p_lss rfl rfl) rfl rfl rfl ?_; clear S a; intro a S
    refine l_pure S (p_move rfl) rfl rfl rfl ?_; clear S a; intro a S
    refine l_split (S.of 14 rfl) (fun bc6 => ?_) (fun bc6 => ?_)
    · skip
      have c6 := bc6
      have c6 := of_decide_eq_true c6
      refine l_off S rfl rfl rfl rfl bc6 rfl rfl ?_; clear S a; intro a S
      refine l_off S rfl rfl rfl rfl bc6 rfl rfl ?_; clear S a; intro a S
      refine l_off S rfl rfl rfl rfl bc6 rfl rfl ?_; clear S a; intro a S
      refine l_pure S (p_pick_t rfl bc6 rfl) rfl rfl rfl ?_; clear S a; intro a S
      refine l_pure S (p_move rfl) rfl rfl rfl ?_; clear S a; intro a S
      refine l_off S rfl rfl rfl rfl rfl rfl rfl ?_; clear S a; intro a S
      refine l_off S rfl rfl rfl rfl rfl rfl rfl ?_; clear S a; intro a S
      refine l_off S rfl rfl rfl rfl rfl rfl rfl ?_; clear S a; intro a S
      refine l_off S rfl rfl rfl rfl rfl rfl rfl ?_; clear S a; intro a S
      refine l_pure S (p_pick_t rfl rfl rfl) rfl rfl rfl ?_; clear S a; intro a S
      refine l_nil ?_
      refine e_then ?_
      refine c_cond (b := true) S rfl (fun _ => ?_) (fun h => by cases h)
      refine wp_seq ?_
      refine c_region ?_
      refine l_pure S (p_assign rfl) rfl rfl rfl ?_; clear S a; intro a S
      refine l_nil ?_
      refine e_then ?_
      refine wp_ret ?_
      refine e_in_ret ?_
      refine e_then_ret ?_
      refine e_then_ret ?_
      refine e_in_ret ?_
      refine e_then_ret ?_
      exact r_ret1 S rfl rfl ⟨false, rfl, (fun h => by cases h), H.tail⟩
    · skip
      have c6 := bc6
      have c6 := of_decide_eq_false c6
      refine l_on S rfl rfl rfl rfl bc6 ?_
      refine l_pure S (p_fieldAddr rfl (fun w => fa25_0 w _ _)) rfl rfl rfl ?_; clear S a; intro a S
      refine l_on S rfl rfl rfl rfl bc6 ?_
      refine l_read S H (r_load rfl List.mem_cons_self rfl (fun w hc => ld1 ag3 hc)) rfl rfl rfl ?_; clear S a; intro a S
      refine l_on S rfl rfl rfl rfl bc6 ?_
      refine l_pure S (p_gtr rfl rfl) rfl rfl rfl ?_; clear S a; intro a S
      refine l_pure S (p_pick_f rfl bc6 rfl) rfl rfl rfl ?_; clear S a; intro a S
      refine l_pure S (p_move rfl) rfl rfl rfl ?_; clear S a; intro a S
      refine l_split (S.of 19 rfl) (fun bc12 => ?_) (fun bc12 => ?_)
      · skip
        have c12 := bc12
        have c12 := of_decide_eq_true c12
        refine l_off S rfl rfl rfl rfl bc12 rfl rfl ?_; clear S a; intro a S
        refine l_off S rfl rfl rfl rfl bc12 rfl rfl ?_; clear S a; intro a S
        refine l_off S rfl rfl rfl rfl bc12 rfl rfl ?_; clear S a; intro a S
        refine l_off S rfl rfl rfl rfl bc12 rfl rfl ?_; clear S a; intro a S
        refine l_pure S (p_pick_t rfl bc12 rfl) rfl rfl rfl ?_; clear S a; intro a S
        refine l_nil ?_
        refine e_then ?_
        refine c_cond (b := true) S rfl (fun _ => ?_) (fun h => by cases h)
        refine wp_seq ?_
        refine c_region ?_
        refine l_pure S (p_assign rfl) rfl rfl rfl ?_; clear S a; intro a S
        refine l_nil ?_
        refine e_then ?_
        refine wp_ret ?_
        refine e_in_ret ?_
        refine e_then_ret ?_
        refine e_then_ret ?_
        refine e_in_ret ?_
        refine e_then_ret ?_
        exact r_ret1 S rfl rfl ⟨false, rfl, (fun h => by cases h), H.tail⟩
      · skip
        have c12 := bc12
        have c12 := of_decide_eq_false c12
        refine l_on S rfl rfl rfl rfl bc12 ?_
        refine l_pure S (p_fieldAddr rfl (fun w => fa25_1 w _ _)) rfl rfl rfl ?_; clear S a; intro a S
        refine l_on S rfl rfl rfl rfl bc12 ?_
        refine l_read S H (r_load rfl List.mem_cons_self rfl (fun w hc => ld1 ag9 hc)) rfl rfl rfl ?_; clear S a; intro a S
        refine l_on S rfl rfl rfl rfl bc12 ?_
        refine l_pure S (p_lens Tryd.underlying9 rfl) rfl rfl rfl ?_; clear S a; intro a S
        refine l_on S rfl rfl rfl rfl bc12 ?_
        refine l_pure S (p_gtr rfl rfl) rfl rfl rfl ?_; clear S a; intro a S
        refine l_pure S (p_pick_f rfl bc12 rfl) rfl rfl rfl ?_; clear S a; intro a S
        refine l_nil ?_
        refine e_then ?_
        refine c_cond S rfl (fun c17 => ?_) (fun c17 => ?_)
        · skip
          have c17 := of_decide_eq_true c17
          refine wp_seq ?_
          refine c_region ?_
          refine l_pure S (p_assign rfl) rfl rfl rfl ?_; clear S a; intro a S
          refine l_nil ?_
          refine e_then ?_
          refine wp_ret ?_
          refine e_in_ret ?_
          refine e_then_ret ?_
          refine e_then_ret ?_
          refine e_in_ret ?_
          refine e_then_ret ?_
          exact r_ret1 S rfl rfl ⟨false, rfl, (fun h => by cases h), H.tail⟩
        · skip
          have c17 := of_decide_eq_false c17
          refine wp_skip ?_
          refine e_in 1 ?_
          refine e_then ?_
          refine c_region ?_
          refine l_pure S (p_add (r := _) rfl rfl (IntWalk.i64_in _ (by omega))) rfl rfl rfl ?_; clear S a; intro a S
          refine l_pure S (p_move rfl) rfl rfl rfl ?_; clear S a; intro a S
          refine l_nil ?_
          refine e_then ?_
          exact ⟨1, ⟨S.only ⟨rfl, rfl, rfl, trivial⟩, H.tail, ⟨by omega, by omega, by omega⟩⟩, by decide⟩
  · skip
    refine wp_seq ?_
    refine c_region ?_
    refine l_pure S (p_lss rfl rfl) rfl rfl rfl ?_; clear S a; intro a S
    refine l_nil ?_
    refine e_then ?_
    refine wp_seq ?_
    refine c_cond (b := true) S rfl (fun _ => ?_) (fun h => by cases h)
    refine wp_skip ?_
    refine e_then ?_
    refine wp_seq ?_
    refine wp_block ?_
    refine wp_seq ?_
    refine c_region ?_
    refine l_pure S (p_indexAddr (v := .pointer (some ⟨g, 6, none⟩)) rfl rfl (fun w => ia_slice Tryd.underlying32 sz25 (by decide) (by decide))) rfl rfl rfl ?_; clear S a; intro a S
    refine l_read S H (r_loadn (m := 6) (vs := [.int .i64 k2, .string s2, .int .i64 n2, .int .u64 u2, .float .f64 f2, .bool b2]) rfl List.mem_cons_self ag25 sz25 rfl rfl) rfl rfl rfl ?_; clear S a; intro a S
    refine l_alloc (cs := #[.int .i64 0, .string ⟨#[]⟩, .int .i64 0, .int .u64 0, .float .f64 0, .bool false]) S H rfl (fun w => al zv25) rfl rfl rfl ?_; clear S a H; intro g21 w a H S
    refine l_storeAll (vs := [.int .i64 k2, .string s2, .int .i64 n2, .int .u64 u2, .float .f64 f2, .bool b2]) S H rfl rfl rfl sz25 .here rfl (fun v hv => by simp only [List.mem_cons, List.not_mem_nil, or_false] at hv; rcases hv with rfl | rfl | rfl | rfl | rfl | rfl <;> rfl) rfl rfl ?_; clear S a H; intro w a H S
    refine l_nil ?_
    refine e_then ?_
    refine wp_seq ?_
    refine c_region ?_
    refine l_pure S (p_fieldAddr rfl (fun w => fa25_0 w _ _)) rfl rfl rfl ?_; clear S a; intro a S
    refine l_read S H (r_load rfl List.mem_cons_self rfl (fun w hc => ld1 ag3 hc)) rfl rfl rfl ?_; clear S a; intro a S
    refine l_pure S (p_lss rfl rfl) rfl rfl rfl ?_; clear S a; intro a S
    refine l_pure S (p_move rfl) rfl rfl rfl ?_; clear S a; intro a S
    refine l_split (S.of 14 rfl) (fun bc23 => ?_) (fun bc23 => ?_)
    · skip
      have c23 := bc23
      have c23 := of_decide_eq_true c23
      refine l_off S rfl rfl rfl rfl bc23 rfl rfl ?_; clear S a; intro a S
      refine l_off S rfl rfl rfl rfl bc23 rfl rfl ?_; clear S a; intro a S
      refine l_off S rfl rfl rfl rfl bc23 rfl rfl ?_; clear S a; intro a S
      refine l_pure S (p_pick_t rfl bc23 rfl) rfl rfl rfl ?_; clear S a; intro a S
      refine l_pure S (p_move rfl) rfl rfl rfl ?_; clear S a; intro a S
      refine l_off S rfl rfl rfl rfl rfl rfl rfl ?_; clear S a; intro a S
      refine l_off S rfl rfl rfl rfl rfl rfl rfl ?_; clear S a; intro a S
      refine l_off S rfl rfl rfl rfl rfl rfl rfl ?_; clear S a; intro a S
      refine l_off S rfl rfl rfl rfl rfl rfl rfl ?_; clear S a; intro a S
      refine l_pure S (p_pick_t rfl rfl rfl) rfl rfl rfl ?_; clear S a; intro a S
      refine l_nil ?_
      refine e_then ?_
      refine c_cond (b := true) S rfl (fun _ => ?_) (fun h => by cases h)
      refine wp_seq ?_
      refine c_region ?_
      refine l_pure S (p_assign rfl) rfl rfl rfl ?_; clear S a; intro a S
      refine l_nil ?_
      refine e_then ?_
      refine wp_ret ?_
      refine e_in_ret ?_
      refine e_then_ret ?_
      refine e_then_ret ?_
      refine e_in_ret ?_
      refine e_then_ret ?_
      exact r_ret1 S rfl rfl ⟨false, rfl, (fun h => by cases h), H.tail⟩
    · skip
      have c23 := bc23
      have c23 := of_decide_eq_false c23
      refine l_on S rfl rfl rfl rfl bc23 ?_
      refine l_pure S (p_fieldAddr rfl (fun w => fa25_0 w _ _)) rfl rfl rfl ?_; clear S a; intro a S
      refine l_on S rfl rfl rfl rfl bc23 ?_
      refine l_read S H (r_load rfl List.mem_cons_self rfl (fun w hc => ld1 ag3 hc)) rfl rfl rfl ?_; clear S a; intro a S
      refine l_on S rfl rfl rfl rfl bc23 ?_
      refine l_pure S (p_gtr rfl rfl) rfl rfl rfl ?_; clear S a; intro a S
      refine l_pure S (p_pick_f rfl bc23 rfl) rfl rfl rfl ?_; clear S a; intro a S
      refine l_pure S (p_move rfl) rfl rfl rfl ?_; clear S a; intro a S
      refine l_split (S.of 19 rfl) (fun bc29 => ?_) (fun bc29 => ?_)
      · skip
        have c29 := bc29
        have c29 := of_decide_eq_true c29
        refine l_off S rfl rfl rfl rfl bc29 rfl rfl ?_; clear S a; intro a S
        refine l_off S rfl rfl rfl rfl bc29 rfl rfl ?_; clear S a; intro a S
        refine l_off S rfl rfl rfl rfl bc29 rfl rfl ?_; clear S a; intro a S
        refine l_off S rfl rfl rfl rfl bc29 rfl rfl ?_; clear S a; intro a S
        refine l_pure S (p_pick_t rfl bc29 rfl) rfl rfl rfl ?_; clear S a; intro a S
        refine l_nil ?_
        refine e_then ?_
        refine c_cond (b := true) S rfl (fun _ => ?_) (fun h => by cases h)
        refine wp_seq ?_
        refine c_region ?_
        refine l_pure S (p_assign rfl) rfl rfl rfl ?_; clear S a; intro a S
        refine l_nil ?_
        refine e_then ?_
        refine wp_ret ?_
        refine e_in_ret ?_
        refine e_then_ret ?_
        refine e_then_ret ?_
        refine e_in_ret ?_
        refine e_then_ret ?_
        exact r_ret1 S rfl rfl ⟨false, rfl, (fun h => by cases h), H.tail⟩
      · skip
        have c29 := bc29
        have c29 := of_decide_eq_false c29
        refine l_on S rfl rfl rfl rfl bc29 ?_
        refine l_pure S (p_fieldAddr rfl (fun w => fa25_1 w _ _)) rfl rfl rfl ?_; clear S a; intro a S
        refine l_on S rfl rfl rfl rfl bc29 ?_
        refine l_read S H (r_load rfl List.mem_cons_self rfl (fun w hc => ld1 ag9 hc)) rfl rfl rfl ?_; clear S a; intro a S
        refine l_on S rfl rfl rfl rfl bc29 ?_
        refine l_pure S (p_lens Tryd.underlying9 rfl) rfl rfl rfl ?_; clear S a; intro a S
        refine l_on S rfl rfl rfl rfl bc29 ?_
        refine l_pure S (p_gtr rfl rfl) rfl rfl rfl ?_; clear S a; intro a S
        refine l_pure S (p_pick_f rfl bc29 rfl) rfl rfl rfl ?_; clear S a; intro a S
        refine l_nil ?_
        refine e_then ?_
        refine c_cond S rfl (fun c34 => ?_) (fun c34 => ?_)
        · skip
          have c34 := of_decide_eq_true c34
          refine wp_seq ?_
          refine c_region ?_
          refine l_pure S (p_assign rfl) rfl rfl rfl ?_; clear S a; intro a S
          refine l_nil ?_
          refine e_then ?_
          refine wp_ret ?_
          refine e_in_ret ?_
          refine e_then_ret ?_
          refine e_then_ret ?_
          refine e_in_ret ?_
          refine e_then_ret ?_
          exact r_ret1 S rfl rfl ⟨false, rfl, (fun h => by cases h), H.tail⟩
        · skip
          have c34 := of_decide_eq_false c34
          refine wp_skip ?_
          refine e_in 1 ?_
          refine e_then ?_
          refine c_region ?_
          refine l_pure S (p_add (r := _) rfl rfl (IntWalk.i64_in _ (by omega))) rfl rfl rfl ?_; clear S a; intro a S
          refine l_pure S (p_move rfl) rfl rfl rfl ?_; clear S a; intro a S
          refine l_nil ?_
          refine e_then ?_
          exact ⟨2, ⟨S.only ⟨rfl, rfl, rfl, trivial⟩, H.tail, ⟨by omega, by omega, by omega⟩⟩, by decide⟩
  · skip
    refine wp_seq ?_
    refine c_region ?_
    refine l_pure S (p_lss rfl rfl) rfl rfl rfl ?_; clear S a; intro a S
    refine l_nil ?_
    refine e_then ?_
    refine wp_seq ?_
    refine c_cond (b := false) S rfl (fun h => by cases h) (fun _ => ?_)
    refine wp_exit ?_
    refine e_then_exit ?_
    refine e_then_exit ?_
    refine e_in_exit ?_
    refine e_then ?_
    refine wp_seq ?_
    refine c_region ?_
    refine l_pure S (p_assign rfl) rfl rfl rfl ?_; clear S a; intro a S
    refine l_nil ?_
    refine e_then ?_
    refine wp_ret ?_
    exact r_ret1 S rfl rfl ⟨true, rfl, (fun _ => by omega), H⟩
theorem idle9 (p0 : Addr) (p1 : Addr) (w : World) :
    CallsD Tryd.prog 9 #[.pointer (some p0), .pointer (some p1)] .returning w fun e u' w' => e = .returned (.tuple #[]) ∧ u' = .returning ∧ w' = w := by
  refine callsD_of_wpS Tryd.func9 rfl fun c₀ cs hu => ?_
  apply wpS_seq
  apply wpS_region
  simp [wpOpsS, go_sem, recoverD, hu, Tryd.ntmps9, Exit.thenS]
  refine wpS_cond (t := false) (by simp [Act.eval, Array.replicate]) ?_
  simp only [Bool.false_eq_true, if_false]
  refine wpS_of_wp (wp_skip ?_)
  cases c₀
  simp_all [bodyPostS, results, Tryd.results9]
theorem hlen {k : Int} {s : ByteArray} {n u : Int} {f : Nat} {b : Bool} {N : Int} (l : List Int) {K : Int} (h : vp.Rel k s n u f b N l K) (hs : s.size ≤ 2147483647) : l.length ≤ 9223372036854775807 := by
  rcases h with ⟨_, _, rfl, _⟩ | ⟨_, _, rfl, _⟩ | ⟨_, _, rfl, _⟩ | ⟨_, _, rfl, _⟩ | ⟨_, _, rfl, _⟩
  · rw [ints_len]; omega
  all_goals simp
theorem impl_ (w0 : World) (k1 : Int) (s1 : ByteArray) (n1 u1 : Int) (f1 : Nat) (b1 : Bool) (k2 : Int) (s2 : ByteArray) (n2 u2 : Int) (f2 : Nat) (b2 : Bool) (hs1 : s1.size ≤ 2147483647) (hs2 : s2.size ≤ 2147483647) (hf1 : f1 < 18446744073709551616) (hf2 : f2 < 18446744073709551616) (r1 : -9223372036854775808 ≤ n1 ∧ n1 ≤ 9223372036854775807) (r2 : -9223372036854775808 ≤ n2 ∧ n2 ≤ 9223372036854775807) (hT : ∀ w (L : List (Nat × Obj)), HH w0.heap.size w0 w L → Lib.Utf8Tabs (Tryd.laysValid_ren.g 3) (Tryd.laysValid_ren.g 4) w) : Calls Tryd.prog 6 #[.agg #[.int .i64 k1, .string s1, .int .i64 n1, .int .u64 u1, .float .f64 f1, .bool b1], .agg #[.int .i64 k2, .string s2, .int .i64 n2, .int .u64 u2, .float .f64 f2, .bool b2]] w0 fun e w' => ∃ is, e = .returned (.tuple #[.bool is, .bool (vp.can k1 s1 f1 && vp.can k2 s2 f2)]) ∧ ((vp.can k1 s1 f1 && vp.can k2 s2 f2) = true → is = vp.peq k1 s1 n1 u1 f1 b1 k2 s2 n2 u2 f2 b2) ∧ Below w0.heap.size w0 w' := by
  have H := HH.start w0
  refine c_enter_d (args := [.agg #[.int .i64 k1, .string s1, .int .i64 n1, .int .u64 u1, .float .f64 f1, .bool b1], .agg #[.int .i64 k2, .string s2, .int .i64 n2, .int .u64 u2, .float .f64 f2, .bool b2]]) (k := 28) Tryd.func6 rfl rfl rfl (fun a S => ?_)
  refine wp_seq ?_
  refine c_region ?_
  refine l_box (cs := #[.int .i64 k1, .string s1, .int .i64 n1, .int .u64 u1, .float .f64 f1, .bool b1]) S H rfl rfl (fun w => bx) rfl rfl rfl ?_; clear S a H; intro g1 w a H S
  refine l_box (cs := #[.int .i64 k2, .string s2, .int .i64 n2, .int .u64 u2, .float .f64 f2, .bool b2]) S H rfl rfl (fun w => bx) rfl rfl rfl ?_; clear S a H; intro g2 w a H S
  refine l_alloc (cs := #[.bool false]) S H rfl (fun w => al zv4) rfl rfl rfl ?_; clear S a H; intro g3 w a H S
  refine l_alloc (cs := #[.bool false]) S H rfl (fun w => al zv4) rfl rfl rfl ?_; clear S a H; intro g4 w a H S
  refine l_nil ?_
  refine e_then ?_
  refine wp_seq ?_
  refine c_region ?_
  refine l_pure S (p_func rfl rfl) rfl rfl rfl ?_; clear S a; intro a S
  refine l_defer (xs := []) (us := []) (vs := []) S rfl rfl rfl rfl rfl ?_; clear S a; intro a S
  refine l_nil ?_
  refine e_then ?_
  refine wp_seq ?_
  refine c_region ?_
  refine l_read S H (r_loadn (m := 6) (vs := [.int .i64 k1, .string s1, .int .i64 n1, .int .u64 u1, .float .f64 f1, .bool b1]) rfl (List.mem_cons_of_mem _ (List.mem_cons_of_mem _ (List.mem_cons_of_mem _ List.mem_cons_self))) ag25 sz25 rfl rfl) rfl rfl rfl ?_; clear S a; intro a S
  have hcon := md.value_ w0 _ _ _ k1 s1 n1 u1 f1 b1 H hs1 hf1 hT
  refine l_call S rfl rfl Tryd.func10 rfl rfl (hcon) rfl rfl rfl ?_
  rintro e w ⟨N1, A1, l1, c1, K1, ow1, rfl, how1, hrel1, hH⟩
  refine ⟨_, rfl, ?_⟩; clear S a; intro a S
  clear H hcon; have H := hH; clear hH
  refine l_pure S (p_move rfl) rfl rfl rfl ?_; clear S a; intro a S
  refine l_pure S (p_extract rfl rfl) rfl rfl rfl ?_; clear S a; intro a S
  refine l_pure S (p_extract rfl rfl) rfl rfl rfl ?_; clear S a; intro a S
  refine l_alloc (cs := #[.int .u64 0, .slice none 0 0, .int .u8 0]) S H rfl (fun w => al zv36) rfl rfl rfl ?_; clear S a H; intro g6 w a H S
  refine l_storeAll (vs := [.int .u64 N1, .slice A1 l1.length c1, .int .u8 K1]) S H rfl rfl rfl sz36 .here rfl (fun v hv => by simp only [List.mem_cons, List.not_mem_nil, or_false] at hv; rcases hv with rfl | rfl | rfl <;> rfl) rfl rfl ?_; clear S a H; intro w a H S
  refine l_pure S (p_assign rfl) rfl rfl rfl ?_; clear S a; intro a S
  refine l_nil ?_
  refine e_then ?_
  refine wp_seq ?_
  refine c_region ?_
  refine l_read S H (r_loadn (m := 6) (vs := [.int .i64 k2, .string s2, .int .i64 n2, .int .u64 u2, .float .f64 f2, .bool b2]) rfl (List.mem_cons_of_mem _ (List.mem_append_right _ (List.mem_cons_of_mem _ (List.mem_cons_of_mem _ List.mem_cons_self)))) ag25 sz25 rfl rfl) rfl rfl rfl ?_; clear S a; intro a S
  have hcon := md.value_ w0 _ _ _ k2 s2 n2 u2 f2 b2 H hs2 hf2 hT
  refine l_call S rfl rfl Tryd.func10 rfl rfl (hcon) rfl rfl rfl ?_
  rintro e w ⟨N2, A2, l2, c2, K2, ow2, rfl, how2, hrel2, hH⟩
  refine ⟨_, rfl, ?_⟩; clear S a; intro a S
  clear H hcon; have H := hH; clear hH
  refine l_pure S (p_move rfl) rfl rfl rfl ?_; clear S a; intro a S
  refine l_pure S (p_extract rfl rfl) rfl rfl rfl ?_; clear S a; intro a S
  refine l_pure S (p_extract rfl rfl) rfl rfl rfl ?_; clear S a; intro a S
  refine l_alloc (cs := #[.int .u64 0, .slice none 0 0, .int .u8 0]) S H rfl (fun w => al zv36) rfl rfl rfl ?_; clear S a H; intro g8 w a H S
  refine l_storeAll (vs := [.int .u64 N2, .slice A2 l2.length c2, .int .u8 K2]) S H rfl rfl rfl sz36 .here rfl (fun v hv => by simp only [List.mem_cons, List.not_mem_nil, or_false] at hv; rcases hv with rfl | rfl | rfl <;> rfl) rfl rfl ?_; clear S a H; intro w a H S
  refine l_pure S (p_assign rfl) rfl rfl rfl ?_; clear S a; intro a S
  refine l_nil ?_
  refine e_then ?_
  refine wp_seq ?_
  refine wp_seq ?_
  refine c_region ?_
  refine l_pure S (p_move rfl) rfl rfl rfl ?_; clear S a; intro a S
  refine l_pure S (p_not rfl) rfl rfl rfl ?_; clear S a; intro a S
  refine l_pure S (p_move rfl) rfl rfl rfl ?_; clear S a; intro a S
  refine l_split (S.of 23 rfl) (fun bc10 => ?_) (fun bc10 => ?_)
  · skip
    have c10 := bc10
    replace c10 := not_eq_true_ c10
    
    refine l_off S rfl rfl rfl rfl bc10 rfl rfl ?_; clear S a; intro a S
    refine l_off S rfl rfl rfl rfl bc10 rfl rfl ?_; clear S a; intro a S
    refine l_pure S (p_pick_t rfl bc10 rfl) rfl rfl rfl ?_; clear S a; intro a S
    refine l_nil ?_
    refine e_then ?_
    refine c_cond (b := true) S rfl (fun _ => ?_) (fun h => by cases h)
    refine wp_seq ?_
    refine c_region ?_
    refine l_store S H rfl rfl rfl (.there (Upd.skip ow2 (.there (Upd.skip ow1 (.there .here))))) (by first | decide | simp [Value.cells]) (fun w u hc hz => st1 sz4 rfl hc hz) rfl rfl ?_; clear S a H; intro w a H S
    refine l_store S H rfl rfl rfl (.there (Upd.skip ow2 (.there (Upd.skip ow1 .here)))) (by first | decide | simp [Value.cells]) (fun w u hc hz => st1 sz4 rfl hc hz) rfl rfl ?_; clear S a H; intro w a H S
    refine l_nil ?_
    refine e_then ?_
    refine wp_ret ?_
    refine e_then_ret ?_
    exact r_door (v := .tuple #[.bool false, .bool false]) S (idle9 _ _) (invokes Tryd.func9 rfl rfl) (res_c2 rfl rfl rfl (lv ag4 H (List.mem_cons_of_mem _ (List.mem_append_right _ (List.mem_cons_of_mem _ (List.mem_append_right _ (List.mem_cons_of_mem _ List.mem_cons_self))))) rfl) (lv ag4 H (List.mem_cons_of_mem _ (List.mem_append_right _ (List.mem_cons_of_mem _ (List.mem_append_right _ List.mem_cons_self)))) rfl)) ⟨false, by simp [*], (fun h => by simp [*] at h), H.below⟩
  · skip
    have c10 := bc10
    replace c10 := not_eq_false_ c10
    
    refine l_on S rfl rfl rfl rfl bc10 ?_
    refine l_pure S (p_move rfl) rfl rfl rfl ?_; clear S a; intro a S
    refine l_on S rfl rfl rfl rfl bc10 ?_
    refine l_pure S (p_not rfl) rfl rfl rfl ?_; clear S a; intro a S
    refine l_pure S (p_pick_f rfl bc10 rfl) rfl rfl rfl ?_; clear S a; intro a S
    refine l_nil ?_
    refine e_then ?_
    refine c_cond S rfl (fun c14 => ?_) (fun c14 => ?_)
    · skip
      replace c14 := not_eq_true_ c14
      
      refine wp_seq ?_
      refine c_region ?_
      refine l_store S H rfl rfl rfl (.there (Upd.skip ow2 (.there (Upd.skip ow1 (.there .here))))) (by first | decide | simp [Value.cells]) (fun w u hc hz => st1 sz4 rfl hc hz) rfl rfl ?_; clear S a H; intro w a H S
      refine l_store S H rfl rfl rfl (.there (Upd.skip ow2 (.there (Upd.skip ow1 .here)))) (by first | decide | simp [Value.cells]) (fun w u hc hz => st1 sz4 rfl hc hz) rfl rfl ?_; clear S a H; intro w a H S
      refine l_nil ?_
      refine e_then ?_
      refine wp_ret ?_
      refine e_then_ret ?_
      exact r_door (v := .tuple #[.bool false, .bool false]) S (idle9 _ _) (invokes Tryd.func9 rfl rfl) (res_c2 rfl rfl rfl (lv ag4 H (List.mem_cons_of_mem _ (List.mem_append_right _ (List.mem_cons_of_mem _ (List.mem_append_right _ (List.mem_cons_of_mem _ List.mem_cons_self))))) rfl) (lv ag4 H (List.mem_cons_of_mem _ (List.mem_append_right _ (List.mem_cons_of_mem _ (List.mem_append_right _ List.mem_cons_self)))) rfl)) ⟨false, by simp [*], (fun h => by simp [*] at h), H.below⟩
    · skip
      replace c14 := not_eq_false_ c14
      
      refine wp_skip ?_
      refine e_then ?_
      refine wp_seq ?_
      refine c_region ?_
      refine l_read S H (r_loadn (m := 3) (vs := [.int .u64 N1, .slice A1 l1.length c1, .int .u8 K1]) rfl (List.mem_cons_of_mem _ (List.mem_append_right _ List.mem_cons_self)) ag36 sz36 rfl rfl) rfl rfl rfl ?_; clear S a; intro a S
      refine l_read S H (r_loadn (m := 3) (vs := [.int .u64 N2, .slice A2 l2.length c2, .int .u8 K2]) rfl List.mem_cons_self ag36 sz36 rfl rfl) rfl rfl rfl ?_; clear S a; intro a S
      have hC1 : (Kd.int .u8).C _ A1 l1.length l1 := Own.bytes how1 (H.tail.bring.tail) (hlen l1 (hrel1 (by assumption)) hs1)
      have hC2 : (Kd.int .u8).C _ A2 l2.length l2 := Own.bytes how2 (H.tail) (hlen l2 (hrel2 (by assumption)) hs2)
      have hcon := md.equal_ _ _ [] N1 A1 l1 c1 K1 N2 A2 l2 c2 K2 (HH.start _) hC1 hC2
      refine l_call S rfl rfl Tryd.func11 rfl rfl (hcon) rfl rfl rfl ?_
      rintro e w ⟨rfl, hH⟩
      refine ⟨_, rfl, ?_⟩; clear S a; intro a S
      replace H := H.later hH.below; clear hcon hH hC1 hC2
      refine l_store S H rfl rfl rfl (.there (Upd.skip ow2 (.there (Upd.skip ow1 (.there .here))))) (by first | decide | simp [Value.cells]) (fun w u hc hz => st1 sz4 rfl hc hz) rfl rfl ?_; clear S a H; intro w a H S
      refine l_store S H rfl rfl rfl (.there (Upd.skip ow2 (.there (Upd.skip ow1 .here)))) (by first | decide | simp [Value.cells]) (fun w u hc hz => st1 sz4 rfl hc hz) rfl rfl ?_; clear S a H; intro w a H S
      refine l_nil ?_
      refine e_then ?_
      refine wp_ret ?_
      exact r_door (v := .tuple #[.bool (vp.eqv N1 l1 K1 N2 l2 K2), .bool true]) S (idle9 _ _) (invokes Tryd.func9 rfl rfl) (res_c2 rfl rfl rfl (lv ag4 H (List.mem_cons_of_mem _ (List.mem_append_right _ (List.mem_cons_of_mem _ (List.mem_append_right _ (List.mem_cons_of_mem _ List.mem_cons_self))))) rfl) (lv ag4 H (List.mem_cons_of_mem _ (List.mem_append_right _ (List.mem_cons_of_mem _ (List.mem_append_right _ List.mem_cons_self)))) rfl)) ⟨_, by simp [*], (fun _ => vp.key (hrel1 (by assumption)) (hrel2 (by assumption)) r1 r2), H.below⟩
theorem law_calls (w0 : World) (k1 : Int) (s1 : ByteArray) (n1 u1 : Int) (f1 : Nat) (b1 : Bool) (k2 : Int) (s2 : ByteArray) (n2 u2 : Int) (f2 : Nat) (b2 : Bool) (hf1 : f1 < 18446744073709551616) (hf2 : f2 < 18446744073709551616) (r1 : -9223372036854775808 ≤ n1 ∧ n1 ≤ 9223372036854775807) (r2 : -9223372036854775808 ≤ n2 ∧ n2 ≤ 9223372036854775807) (hT : ∀ w (L : List (Nat × Obj)), HH w0.heap.size w0 w L → Lib.Utf8Tabs (Tryd.laysValid_ren.g 3) (Tryd.laysValid_ren.g 4) w) : Calls Tryd.prog 3 #[.agg #[.int .i64 k1, .string s1, .int .i64 n1, .int .u64 u1, .float .f64 f1, .bool b1], .agg #[.int .i64 k2, .string s2, .int .i64 n2, .int .u64 u2, .float .f64 f2, .bool b2]] w0 fun e w' => e = .returned (.bool true) ∧ Below w0.heap.size w0 w' := by
  have H := HH.start w0
  refine c_enter (args := [.agg #[.int .i64 k1, .string s1, .int .i64 n1, .int .u64 u1, .float .f64 f1, .bool b1], .agg #[.int .i64 k2, .string s2, .int .i64 n2, .int .u64 u2, .float .f64 f2, .bool b2]]) (k := 44) Tryd.func3 rfl rfl rfl (fun a S => ?_)
  refine wp_seq ?_
  refine c_region ?_
  refine l_box (cs := #[.int .i64 k1, .string s1, .int .i64 n1, .int .u64 u1, .float .f64 f1, .bool b1]) S H rfl rfl (fun w => bx) rfl rfl rfl ?_; clear S a H; intro g1 w a H S
  refine l_box (cs := #[.int .i64 k2, .string s2, .int .i64 n2, .int .u64 u2, .float .f64 f2, .bool b2]) S H rfl rfl (fun w => bx) rfl rfl rfl ?_; clear S a H; intro g2 w a H S
  refine l_pure S (p_assign rfl) rfl rfl rfl ?_; clear S a; intro a S
  refine l_nil ?_
  refine e_then ?_
  refine wp_seq ?_
  refine wp_seq ?_
  refine c_region ?_
  refine l_read S H (r_loadn (m := 6) (vs := [.int .i64 k1, .string s1, .int .i64 n1, .int .u64 u1, .float .f64 f1, .bool b1]) rfl (List.mem_cons_of_mem _ List.mem_cons_self) ag25 sz25 rfl rfl) rfl rfl rfl ?_; clear S a; intro a S
  refine l_call S rfl rfl Tryd.func4 rfl rfl (fits_ w0 _ _ _ k1 s1 n1 u1 f1 b1 H) rfl rfl rfl ?_
  rintro e w ⟨ok1, rfl, hok1, hH⟩
  refine ⟨_, rfl, ?_⟩; clear S a; intro a S
  clear H; have H := hH; clear hH
  refine l_pure S (p_not rfl) rfl rfl rfl ?_; clear S a; intro a S
  refine l_pure S (p_move rfl) rfl rfl rfl ?_; clear S a; intro a S
  refine l_split (S.of 10 rfl) (fun bc6 => ?_) (fun bc6 => ?_)
  · skip
    have c6 := bc6
    replace c6 := not_eq_true_ c6
    
    refine l_off S rfl rfl rfl rfl bc6 rfl rfl ?_; clear S a; intro a S
    refine l_off S rfl rfl rfl rfl bc6 rfl rfl ?_; clear S a; intro a S
    refine l_off S rfl rfl rfl rfl bc6 rfl rfl ?_; clear S a; intro a S
    refine l_pure S (p_pick_t rfl bc6 rfl) rfl rfl rfl ?_; clear S a; intro a S
    refine l_nil ?_
    refine e_then ?_
    refine c_cond (b := true) S rfl (fun _ => ?_) (fun h => by cases h)
    refine wp_seq ?_
    refine c_region ?_
    refine l_pure S (p_assign rfl) rfl rfl rfl ?_; clear S a; intro a S
    refine l_nil ?_
    refine e_then ?_
    refine wp_ret ?_
    refine e_then_ret ?_
    first | exact r_ret1 S rfl rfl ⟨rfl, H.below⟩ | (refine r_ret1 S rfl rfl ⟨?_, H.below⟩; simp_all)
  · skip
    have c6 := bc6
    replace c6 := not_eq_false_ c6
    
    refine l_on S rfl rfl rfl rfl bc6 ?_
    refine l_read S H (r_loadn (m := 6) (vs := [.int .i64 k2, .string s2, .int .i64 n2, .int .u64 u2, .float .f64 f2, .bool b2]) rfl List.mem_cons_self ag25 sz25 rfl rfl) rfl rfl rfl ?_; clear S a; intro a S
    refine l_on S rfl rfl rfl rfl bc6 ?_
    refine l_call S rfl rfl Tryd.func4 rfl rfl (fits_ w0 _ _ _ k2 s2 n2 u2 f2 b2 H) rfl rfl rfl ?_
    rintro e w ⟨ok2, rfl, hok2, hH⟩
    refine ⟨_, rfl, ?_⟩; clear S a; intro a S
    clear H; have H := hH; clear hH
    refine l_on S rfl rfl rfl rfl bc6 ?_
    refine l_pure S (p_not rfl) rfl rfl rfl ?_; clear S a; intro a S
    refine l_pure S (p_pick_f rfl bc6 rfl) rfl rfl rfl ?_; clear S a; intro a S
    refine l_nil ?_
    refine e_then ?_
    refine c_cond S rfl (fun c12 => ?_) (fun c12 => ?_)
    · skip
      replace c12 := not_eq_true_ c12
      
      refine wp_seq ?_
      refine c_region ?_
      refine l_pure S (p_assign rfl) rfl rfl rfl ?_; clear S a; intro a S
      refine l_nil ?_
      refine e_then ?_
      refine wp_ret ?_
      refine e_then_ret ?_
      first | exact r_ret1 S rfl rfl ⟨rfl, H.below⟩ | (refine r_ret1 S rfl rfl ⟨?_, H.below⟩; simp_all)
    · skip
      replace c12 := not_eq_false_ c12
      
      refine wp_skip ?_
      refine e_then ?_
      refine wp_seq ?_
      refine wp_seq ?_
      refine c_region ?_
      refine l_read S H (r_loadn (m := 6) (vs := [.int .i64 k1, .string s1, .int .i64 n1, .int .u64 u1, .float .f64 f1, .bool b1]) rfl (List.mem_cons_of_mem _ List.mem_cons_self) ag25 sz25 rfl rfl) rfl rfl rfl ?_; clear S a; intro a S
      refine l_read S H (r_loadn (m := 6) (vs := [.int .i64 k2, .string s2, .int .i64 n2, .int .u64 u2, .float .f64 f2, .bool b2]) rfl List.mem_cons_self ag25 sz25 rfl rfl) rfl rfl rfl ?_; clear S a; intro a S
      refine l_litR (ps := [(0, .tmp 15), (1, .tmp 16)]) (cells := #[.int .i64 k1, .string s1, .int .i64 n1, .int .u64 u1, .float .f64 f1, .bool b1, .int .i64 k2, .string s2, .int .i64 n2, .int .u64 u2, .float .f64 f2, .bool b2]) (e := 25) S H rfl rfl (fun w => litV w _ _ _ _ _ _ _ _ _ _ _ _) rfl rfl rfl ?_; clear S a H; intro gl w a H S
      refine l_call S rfl rfl Tryd.func5 rfl rfl (kinds_ w0 _ _ _ gl k1 s1 n1 u1 f1 b1 k2 s2 n2 u2 f2 b2 H) rfl rfl rfl ?_
      rintro e w ⟨okk, rfl, hokk, hH⟩
      refine ⟨_, rfl, ?_⟩; clear S a; intro a S
      clear H; have H := hH; clear hH
      refine l_pure S (p_not rfl) rfl rfl rfl ?_; clear S a; intro a S
      refine l_nil ?_
      refine e_then ?_
      refine c_cond S rfl (fun c16 => ?_) (fun c16 => ?_)
      · skip
        replace c16 := not_eq_true_ c16
        
        refine wp_seq ?_
        refine c_region ?_
        refine l_pure S (p_assign rfl) rfl rfl rfl ?_; clear S a; intro a S
        refine l_nil ?_
        refine e_then ?_
        refine wp_ret ?_
        refine e_then_ret ?_
        first | exact r_ret1 S rfl rfl ⟨rfl, H.below⟩ | (refine r_ret1 S rfl rfl ⟨?_, H.below⟩; simp_all)
      · skip
        replace c16 := not_eq_false_ c16
        
        refine wp_skip ?_
        refine e_then ?_
        refine wp_seq ?_
        refine c_region ?_
        refine l_read S H (r_loadn (m := 6) (vs := [.int .i64 k1, .string s1, .int .i64 n1, .int .u64 u1, .float .f64 f1, .bool b1]) rfl (List.mem_cons_of_mem _ (List.mem_cons_of_mem _ List.mem_cons_self)) ag25 sz25 rfl rfl) rfl rfl rfl ?_; clear S a; intro a S
        refine l_read S H (r_loadn (m := 6) (vs := [.int .i64 k2, .string s2, .int .i64 n2, .int .u64 u2, .float .f64 f2, .bool b2]) rfl (List.mem_cons_of_mem _ List.mem_cons_self) ag25 sz25 rfl rfl) rfl rfl rfl ?_; clear S a; intro a S
        obtain ⟨hk1, hk2⟩ := hokk (by assumption)
        have hcon := impl_ _ k1 s1 n1 u1 f1 b1 k2 s2 n2 u2 f2 b2 (by omega) (by omega) hf1 hf2 r1 r2 (fun w L H' => hT w L ⟨H.below.trans (H'.below.mono H.hB), Nat.le_trans H.hB H'.hB, fun p hp => Nat.le_trans H.hB (H'.lo p hp), H'.nodup, H'.at_⟩)
        refine l_call S rfl rfl Tryd.func6 rfl rfl (hcon) rfl rfl rfl ?_
        rintro e w ⟨is, rfl, his, hb⟩
        refine ⟨_, rfl, ?_⟩; clear S a; intro a S
        replace H := H.later hb; clear hb hcon
        refine l_pure S (p_move rfl) rfl rfl rfl ?_; clear S a; intro a S
        refine l_pure S (p_extract rfl rfl) rfl rfl rfl ?_; clear S a; intro a S
        refine l_pure S (p_extract rfl rfl) rfl rfl rfl ?_; clear S a; intro a S
        refine l_pure S (p_assign rfl) rfl rfl rfl ?_; clear S a; intro a S
        refine l_pure S (p_assign rfl) rfl rfl rfl ?_; clear S a; intro a S
        refine l_nil ?_
        refine e_then ?_
        refine wp_seq ?_
        refine wp_seq ?_
        refine c_region ?_
        refine l_read S H (r_loadn (m := 6) (vs := [.int .i64 k1, .string s1, .int .i64 n1, .int .u64 u1, .float .f64 f1, .bool b1]) rfl (List.mem_cons_of_mem _ (List.mem_cons_of_mem _ List.mem_cons_self)) ag25 sz25 rfl rfl) rfl rfl rfl ?_; clear S a; intro a S
        refine l_call S rfl rfl Tryd.func7 rfl rfl (md.can_ w0 _ _ _ k1 s1 n1 u1 f1 b1 H (by omega)) rfl rfl rfl ?_
        rintro e w ⟨rfl, hH⟩
        refine ⟨_, rfl, ?_⟩; clear S a; intro a S
        clear H; have H := hH; clear hH
        refine l_pure S (p_not rfl) rfl rfl rfl ?_; clear S a; intro a S
        refine l_pure S (p_move rfl) rfl rfl rfl ?_; clear S a; intro a S
        refine l_split (S.of 29 rfl) (fun bc22 => ?_) (fun bc22 => ?_)
        · skip
          have c22 := bc22
          replace c22 := not_eq_true_ c22
          
          refine l_off S rfl rfl rfl rfl bc22 rfl rfl ?_; clear S a; intro a S
          refine l_off S rfl rfl rfl rfl bc22 rfl rfl ?_; clear S a; intro a S
          refine l_off S rfl rfl rfl rfl bc22 rfl rfl ?_; clear S a; intro a S
          refine l_pure S (p_pick_t rfl bc22 rfl) rfl rfl rfl ?_; clear S a; intro a S
          refine l_nil ?_
          refine e_then ?_
          refine c_cond (b := true) S rfl (fun _ => ?_) (fun h => by cases h)
          refine wp_seq ?_
          refine c_region ?_
          refine l_pure S (p_move rfl) rfl rfl rfl ?_; clear S a; intro a S
          refine l_pure S (p_not rfl) rfl rfl rfl ?_; clear S a; intro a S
          refine l_pure S (p_assign rfl) rfl rfl rfl ?_; clear S a; intro a S
          refine l_nil ?_
          refine e_then ?_
          refine wp_ret ?_
          refine e_then_ret ?_
          first | exact r_ret1 S rfl rfl ⟨rfl, H.below⟩ | (refine r_ret1 S rfl rfl ⟨?_, H.below⟩; simp_all)
        · skip
          have c22 := bc22
          replace c22 := not_eq_false_ c22
          
          refine l_on S rfl rfl rfl rfl bc22 ?_
          refine l_read S H (r_loadn (m := 6) (vs := [.int .i64 k2, .string s2, .int .i64 n2, .int .u64 u2, .float .f64 f2, .bool b2]) rfl (List.mem_cons_of_mem _ List.mem_cons_self) ag25 sz25 rfl rfl) rfl rfl rfl ?_; clear S a; intro a S
          refine l_on S rfl rfl rfl rfl bc22 ?_
          refine l_call S rfl rfl Tryd.func7 rfl rfl (md.can_ w0 _ _ _ k2 s2 n2 u2 f2 b2 H (by omega)) rfl rfl rfl ?_
          rintro e w ⟨rfl, hH⟩
          refine ⟨_, rfl, ?_⟩; clear S a; intro a S
          clear H; have H := hH; clear hH
          refine l_on S rfl rfl rfl rfl bc22 ?_
          refine l_pure S (p_not rfl) rfl rfl rfl ?_; clear S a; intro a S
          refine l_pure S (p_pick_f rfl bc22 rfl) rfl rfl rfl ?_; clear S a; intro a S
          refine l_nil ?_
          refine e_then ?_
          refine c_cond S rfl (fun c28 => ?_) (fun c28 => ?_)
          · skip
            replace c28 := not_eq_true_ c28
            
            refine wp_seq ?_
            refine c_region ?_
            refine l_pure S (p_move rfl) rfl rfl rfl ?_; clear S a; intro a S
            refine l_pure S (p_not rfl) rfl rfl rfl ?_; clear S a; intro a S
            refine l_pure S (p_assign rfl) rfl rfl rfl ?_; clear S a; intro a S
            refine l_nil ?_
            refine e_then ?_
            refine wp_ret ?_
            refine e_then_ret ?_
            first | exact r_ret1 S rfl rfl ⟨rfl, H.below⟩ | (refine r_ret1 S rfl rfl ⟨?_, H.below⟩; simp_all)
          · skip
            replace c28 := not_eq_false_ c28
            
            refine wp_skip ?_
            refine e_then ?_
            refine wp_seq ?_
            refine d_start (id := 8) [] 11 #[false, false, false, false, false, false, false, false, false, false, false] H rfl rfl rfl (fun w H => ?_)
            refine d_pure (i := 0) #[true, false, false, false, false, false, false, false, false, false, false] S rfl (p_move rfl) (wanted_none rfl) rfl rfl (by kernel_rfl) (fun _ _ _ h => h) ?_; clear S a; intro a S
            refine d_pure (i := 1) #[true, true, false, false, false, false, false, false, false, false, false] S rfl (p_move rfl) (wanted_none rfl) rfl rfl (by kernel_rfl) (fun _ _ _ h => h) ?_; clear S a; intro a S
            refine d_split (S.of 37 rfl) (fun bc30 => ?_) (fun bc30 => ?_)
            · skip
              refine d_pure (i := 2) #[true, true, true, false, false, false, false, false, false, false, false] S rfl (p_move rfl) (wanted_on S rfl rfl rfl rfl bc30) rfl rfl (by kernel_rfl) (fun _ _ _ h => h) ?_; clear S a; intro a S
              refine d_read (i := 3) #[true, true, true, true, false, false, false, false, false, false, false] S H rfl (r_loadn (m := 6) (vs := [.int .i64 k1, .string s1, .int .i64 n1, .int .u64 u1, .float .f64 f1, .bool b1]) rfl (List.mem_cons_of_mem _ (List.mem_cons_of_mem _ List.mem_cons_self)) ag25 sz25 rfl rfl) (wanted_on S rfl rfl rfl rfl bc30) rfl rfl (by kernel_rfl) (fun _ _ _ h => h) ?_; clear S a; intro a S
              refine d_read (i := 5) #[true, true, true, true, false, true, false, false, false, false, false] S H rfl (r_loadn (m := 6) (vs := [.int .i64 k2, .string s2, .int .i64 n2, .int .u64 u2, .float .f64 f2, .bool b2]) rfl (List.mem_cons_of_mem _ List.mem_cons_self) ag25 sz25 rfl rfl) (wanted_on S rfl rfl rfl rfl bc30) rfl rfl (by kernel_rfl) (fun _ _ _ h => h) ?_; clear S a; intro a S
              refine d_call (i := 4) #[true, true, true, true, true, true, false, false, false, false, false] S rfl rfl rfl Tryd.func8 rfl rfl (md.plain_ w0 _ _ _ k1 s1 n1 u1 f1 b1 H) (wanted_on S rfl rfl rfl rfl bc30) rfl rfl (by kernel_rfl) rfl ?_
              rintro e w ⟨rfl, hH⟩
              refine ⟨_, rfl, hH, ?_⟩; clear H; have H := hH; clear hH; clear S a; intro a S
              refine d_call (i := 6) #[true, true, true, true, true, true, true, false, false, false, false] S rfl rfl rfl Tryd.func8 rfl rfl (md.plain_ w0 _ _ _ k2 s2 n2 u2 f2 b2 H) (wanted_on S rfl rfl rfl rfl bc30) rfl rfl (by kernel_rfl) rfl ?_
              rintro e w ⟨rfl, hH⟩
              refine ⟨_, rfl, hH, ?_⟩; clear H; have H := hH; clear hH; clear S a; intro a S
              refine d_pure (i := 7) #[true, true, true, true, true, true, true, true, false, false, false] S rfl (p_bin (v := .bool (vp.peq k1 s1 n1 u1 f1 b1 k2 s2 n2 u2 f2 b2)) rfl rfl (fun w => eqg w _ _ _ _) (fun w => eqV w _ _ _ _ _ _ _ _ _ _ _ _)) (wanted_on S rfl rfl rfl rfl bc30) rfl rfl (by kernel_rfl) (fun _ _ _ h => h) ?_; clear S a; intro a S
              refine d_pure (i := 8) #[true, true, true, true, true, true, true, true, true, false, false] S rfl (p_beql Tryd.underlying4 rfl rfl) (wanted_on S rfl rfl rfl rfl bc30) rfl rfl (by kernel_rfl) (fun _ _ _ h => h) ?_; clear S a; intro a S
              refine d_pure (i := 9) #[true, true, true, true, true, true, true, true, true, true, false] S rfl (p_pick_t rfl bc30 rfl) (wanted_none rfl) rfl rfl (by kernel_rfl) (fun _ _ _ h => h) ?_; clear S a; intro a S
              refine d_pure (i := 10) #[true, true, true, true, true, true, true, true, true, true, true] S rfl (p_assign rfl) (wanted_none rfl) rfl rfl (by kernel_rfl) (fun _ _ _ h => h) ?_; clear S a; intro a S
              refine d_done (by kernel_rfl) ?_
              refine e_then ?_
              refine wp_ret ?_
              first | exact r_ret1 S rfl rfl ⟨rfl, H.below⟩ | (refine r_ret1 S rfl rfl ⟨?_, H.below⟩; simp_all)
            · skip
              refine d_off (i := 2) #[true, true, true, false, false, false, false, false, false, false, false] S rfl (wanted_off S rfl rfl rfl rfl bc30) rfl rfl (by kernel_rfl) (fun _ _ _ h => h) ?_; clear S a; intro a S
              refine d_off (i := 3) #[true, true, true, true, false, false, false, false, false, false, false] S rfl (wanted_off S rfl rfl rfl rfl bc30) rfl rfl (by kernel_rfl) (fun _ _ _ h => h) ?_; clear S a; intro a S
              refine d_off (i := 5) #[true, true, true, true, false, true, false, false, false, false, false] S rfl (wanted_off S rfl rfl rfl rfl bc30) rfl rfl (by kernel_rfl) (fun _ _ _ h => h) ?_; clear S a; intro a S
              refine d_off (i := 4) #[true, true, true, true, true, true, false, false, false, false, false] S rfl (wanted_off S rfl rfl rfl rfl bc30) rfl rfl (by kernel_rfl) (fun _ _ _ h => h) ?_; clear S a; intro a S
              refine d_off (i := 6) #[true, true, true, true, true, true, true, false, false, false, false] S rfl (wanted_off S rfl rfl rfl rfl bc30) rfl rfl (by kernel_rfl) (fun _ _ _ h => h) ?_; clear S a; intro a S
              refine d_off (i := 7) #[true, true, true, true, true, true, true, true, false, false, false] S rfl (wanted_off S rfl rfl rfl rfl bc30) rfl rfl (by kernel_rfl) (fun _ _ _ h => h) ?_; clear S a; intro a S
              refine d_off (i := 8) #[true, true, true, true, true, true, true, true, true, false, false] S rfl (wanted_off S rfl rfl rfl rfl bc30) rfl rfl (by kernel_rfl) (fun _ _ _ h => h) ?_; clear S a; intro a S
              refine d_pure (i := 9) #[true, true, true, true, true, true, true, true, true, true, false] S rfl (p_pick_f rfl bc30 rfl) (wanted_none rfl) rfl rfl (by kernel_rfl) (fun _ _ _ h => h) ?_; clear S a; intro a S
              refine d_pure (i := 10) #[true, true, true, true, true, true, true, true, true, true, true] S rfl (p_assign rfl) (wanted_none rfl) rfl rfl (by kernel_rfl) (fun _ _ _ h => h) ?_; clear S a; intro a S
              refine d_done (by kernel_rfl) ?_
              refine e_then ?_
              refine wp_ret ?_
              first | exact r_ret1 S rfl rfl ⟨rfl, H.below⟩ | (refine r_ret1 S rfl rfl ⟨?_, H.below⟩; simp_all)
end la
end Go.Proofs.YtmdfmdnjjklliaaDoor.ve
