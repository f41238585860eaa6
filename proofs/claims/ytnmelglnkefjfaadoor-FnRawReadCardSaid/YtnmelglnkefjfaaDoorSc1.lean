/- Raw messages: the reference's Raw, walked. -/
import Derived.Test.YtnmelglnkefjfaaDoorSb1
namespace Go.Proofs.YtnmelglnkefjfaaDoor.rr
open Go.RowKit Go.Proofs.HHW Go.Proofs.YtnmelglnkefjfaaDoorW.PrintWords
set_option linter.unusedVariables false
set_option linter.unusedSimpArgs false
namespace sr
theorem ag27 : aggB Tryd.prog 27 = some false := by kernel_rfl
theorem ag3 : aggB Tryd.prog 3 = some false := by kernel_rfl
theorem ag9 : aggB Tryd.prog 9 = some false := by kernel_rfl
theorem fa31_0 (w : World) (g o : Nat) : (Instr.fieldAt 31 (.pointer (some ⟨g, o, none⟩)) 0).run Tryd.prog w = .ok (.pointer (some ⟨g, o + 0, none⟩)) w := by kernel_rfl
theorem fa31_1 (w : World) (g o : Nat) : (Instr.fieldAt 31 (.pointer (some ⟨g, o, none⟩)) 1).run Tryd.prog w = .ok (.pointer (some ⟨g, o + 1, none⟩)) w := by kernel_rfl
theorem fa31_2 (w : World) (g o : Nat) : (Instr.fieldAt 31 (.pointer (some ⟨g, o, none⟩)) 2).run Tryd.prog w = .ok (.pointer (some ⟨g, o + 2, none⟩)) w := by kernel_rfl
theorem fa31_3 (w : World) (g o : Nat) : (Instr.fieldAt 31 (.pointer (some ⟨g, o, none⟩)) 3).run Tryd.prog w = .ok (.pointer (some ⟨g, o + 3, none⟩)) w := by kernel_rfl
theorem sz3 : szB Tryd.prog 3 = some 1 := by kernel_rfl
theorem sz4 : szB Tryd.prog 4 = some 1 := by kernel_rfl


theorem clo_ (wb w0 : World) (B : Nat) (L0 : dc.Bk) (gx gt : Nat) (tx : ByteArray) (p D : Nat) (od : Bool) (H : HH B wb w0 ((gx, .cells #[.pointer (some ⟨gt, 0, none⟩)] 27 (0, 0)) :: (gt, .cells #[.string tx, .int .i64 (p : Int), .bool od, .int .i64 ((D + 1 : Nat) : Int)] 31 (0, 0)) :: L0)) (hD : D ≤ 1000) : CallsD Tryd.prog 22 #[.pointer (some ⟨gx, 0, none⟩)] .returning w0 fun e u' w' => u' = .returning ∧ (e = .returned (.tuple #[]) ∧ HH B wb w' ((gx, .cells #[.pointer (some ⟨gt, 0, none⟩)] 27 (0, 0)) :: (gt, .cells #[.string tx, .int .i64 (p : Int), .bool od, .int .i64 (D : Int)] 31 (0, 0)) :: L0)) := by
  refine c_enterD (args := [.pointer (some ⟨gx, 0, none⟩)]) (k := 7) Tryd.func22 rfl rfl rfl (fun a S => ?_)
  refine c_region ?_
  refine l_read S H (r_load rfl List.mem_cons_self rfl (fun w hc => ld1 ag27 hc)) rfl rfl rfl ?_; clear S a; intro a S
  refine l_pure S (p_nilCheck rfl) rfl rfl rfl ?_; clear S a; intro a S
  refine l_pure S (p_fieldAddr rfl (fun w => fa31_3 w _ _)) rfl rfl rfl ?_; clear S a; intro a S
  refine l_read S H (r_load rfl (List.mem_cons_of_mem _ List.mem_cons_self) rfl (fun w hc => ld1 ag3 hc)) rfl rfl rfl ?_; clear S a; intro a S
  refine l_pure S (p_sub rfl rfl (nat_sub (x := (D + 1)) (y := 1) (by omega) (by omega))) rfl rfl rfl ?_; clear S a; intro a S
  refine l_pure S (p_nilCheck rfl) rfl rfl rfl ?_; clear S a; intro a S
  refine l_pure S (p_fieldAddr rfl (fun w => fa31_3 w _ _)) rfl rfl rfl ?_; clear S a; intro a S
  refine l_store S H rfl rfl rfl (.there .here) (by first | decide | simp [Value.cells]) (fun w u hc hz => st1 sz3 rfl hc hz) rfl rfl ?_; clear S a H; intro w a H S
  refine l_nil ?_
  exact r_end0 S rfl ⟨rfl, H⟩
def RP (B : Nat) (wb : World) (gt : Nat) (tx : ByteArray) (p D : Nat) (L0 : dc.Bk) (r : Option (Option Nat)) (e : Ending) (w' : World) : Prop :=
  (r = none ∧ e = .returned (.bool false) ∧ ∃ p' : Nat, HH B wb w' ((gt, .cells #[.string tx, .int .i64 (p' : Int), .bool true, .int .i64 (D : Int)] 31 (0, 0)) :: L0)) ∨
  (r = some none ∧ e = .returned (.bool false) ∧ ∃ p' : Nat, HH B wb w' ((gt, .cells #[.string tx, .int .i64 (p' : Int), .bool false, .int .i64 (D : Int)] 31 (0, 0)) :: L0)) ∨
  (∃ c, r = some (some c) ∧ e = .returned (.bool true) ∧ p + c ≤ tx.size ∧ HH B wb w' ((gt, .cells #[.string tx, .int .i64 ((p + c : Nat) : Int), .bool false, .int .i64 (D : Int)] 31 (0, 0)) :: L0))
def RawC (k : Nat) : Prop := ∀ (wb w0 : World) (B : Nat) (L0 : dc.Bk) (gt : Nat) (tx : ByteArray) (p D : Nat), HH B wb w0 ((gt, .cells #[.string tx, .int .i64 (p : Int), .bool false, .int .i64 (D : Int)] 31 (0, 0)) :: L0) → p ≤ tx.size → tx.size ≤ 1000000 → D + k = 500 →
  Calls Tryd.prog 9 #[.pointer (some ⟨gt, 0, none⟩)] w0 (RP B wb gt tx p D L0 (rp.raw k ((ints tx).drop p)))
set_option maxHeartbeats 4000000 in
theorem raw_zero (wb w0 : World) (B : Nat) (L0 : dc.Bk) (gt : Nat) (tx : ByteArray) (p : Nat) (D : Nat)  (H : HH B wb w0 ((gt, .cells #[.string tx, .int .i64 (p : Int), .bool false, .int .i64 (D : Int)] 31 (0, 0)) :: L0)) (hp : p ≤ tx.size) (hS : tx.size ≤ 1000000) (hD : D + 0 = 500) : Calls Tryd.prog 9 #[.pointer (some ⟨gt, 0, none⟩)] w0 (RP B wb gt tx p D L0 (rp.raw 0 ((ints tx).drop p))) := by
  refine c_enter_d (args := [.pointer (some ⟨gt, 0, none⟩)]) (k := 200) Tryd.func9 rfl rfl rfl (fun a S => ?_)
  refine wp_seq ?_
  refine c_region ?_
  refine l_box (cs := #[.pointer (some ⟨gt, 0, none⟩)]) S H rfl rfl (fun w => bx) rfl rfl rfl ?_; clear S a H; intro gx w a H S
  refine l_pure S (p_assign rfl) rfl rfl rfl ?_; clear S a; intro a S
  refine l_nil ?_
  refine e_then ?_
  refine wp_seq ?_
  refine c_region ?_
  refine l_read S H (r_load rfl List.mem_cons_self rfl (fun w hc => ld1 ag27 hc)) rfl rfl rfl ?_; clear S a; intro a S
  refine l_pure S (p_nilCheck rfl) rfl rfl rfl ?_; clear S a; intro a S
  refine l_pure S (p_fieldAddr rfl (fun w => fa31_3 w _ _)) rfl rfl rfl ?_; clear S a; intro a S
  refine l_read S H (r_load rfl (List.mem_cons_of_mem _ List.mem_cons_self) rfl (fun w hc => ld1 ag3 hc)) rfl rfl rfl ?_; clear S a; intro a S
  refine l_pure S (p_add rfl rfl (nat_add (x := D) (y := 1) (by omega))) rfl rfl rfl ?_; clear S a; intro a S
  refine l_pure S (p_nilCheck rfl) rfl rfl rfl ?_; clear S a; intro a S
  refine l_pure S (p_fieldAddr rfl (fun w => fa31_3 w _ _)) rfl rfl rfl ?_; clear S a; intro a S
  refine l_store S H rfl rfl rfl (.there .here) (by first | decide | simp [Value.cells]) (fun w u hc hz => st1 sz3 rfl hc hz) rfl rfl ?_; clear S a H; intro w a H S
  refine l_nil ?_
  refine e_then ?_
  refine wp_seq ?_
  refine c_region ?_
  refine l_pure S (p_func rfl rfl) rfl rfl rfl ?_; clear S a; intro a S
  refine l_defer (xs := []) (us := []) (vs := []) S rfl rfl rfl rfl rfl ?_; clear S a; intro a S
  refine l_nil ?_
  refine e_then ?_
  refine wp_seq ?_
  refine wp_seq ?_
  refine c_region ?_
  refine l_read S H (r_load rfl List.mem_cons_self rfl (fun w hc => ld1 ag27 hc)) rfl rfl rfl ?_; clear S a; intro a S
  refine l_pure S (p_nilCheck rfl) rfl rfl rfl ?_; clear S a; intro a S
  refine l_pure S (p_fieldAddr rfl (fun w => fa31_3 w _ _)) rfl rfl rfl ?_; clear S a; intro a S
  refine l_read S H (r_load rfl (List.mem_cons_of_mem _ List.mem_cons_self) rfl (fun w hc => ld1 ag3 hc)) rfl rfl rfl ?_; clear S a; intro a S
  refine l_pure S (p_gtr rfl rfl) rfl rfl rfl ?_; clear S a; intro a S
  refine l_nil ?_
  refine e_then ?_
  refine c_cond S rfl (fun c3 => ?_) (fun c3 => by have c3 := of_decide_eq_false c3; exfalso; omega)
  have c3 := of_decide_eq_true c3
  refine wp_seq ?_
  refine c_region ?_
  refine l_read S H (r_load rfl List.mem_cons_self rfl (fun w hc => ld1 ag27 hc)) rfl rfl rfl ?_; clear S a; intro a S
  refine l_pure S (p_nilCheck rfl) rfl rfl rfl ?_; clear S a; intro a S
  refine l_pure S (p_fieldAddr rfl (fun w => fa31_2 w _ _)) rfl rfl rfl ?_; clear S a; intro a S
  refine l_store S H rfl rfl rfl (.there .here) (by first | decide | simp [Value.cells]) (fun w u hc hz => st1 sz4 rfl hc hz) rfl rfl ?_; clear S a H; intro w a H S
  refine l_nil ?_
  refine e_then ?_
  refine wp_seq ?_
  refine c_region ?_
  refine l_pure S (p_assign rfl) rfl rfl rfl ?_; clear S a; intro a S
  refine l_nil ?_
  refine e_then ?_
  refine wp_ret ?_
  refine e_then_ret ?_
  -- None {} odd=True ok=False pos=p tests=
  exact r_doorR S (clo_ wb _ _ _ gx gt tx (p) D true H (by omega)) (invokes Tryd.func22 rfl rfl) (fun w' hH => res_t1 rfl rfl) (fun w' hH => .inl ⟨rfl, rfl, p, hH.tail⟩)
set_option maxHeartbeats 4000000 in
theorem raw_step (wb w0 : World) (B : Nat) (L0 : dc.Bk) (gt : Nat) (tx : ByteArray) (p : Nat) (D k : Nat) (ih : RawC k) (H : HH B wb w0 ((gt, .cells #[.string tx, .int .i64 (p : Int), .bool false, .int .i64 (D : Int)] 31 (0, 0)) :: L0)) (hp : p ≤ tx.size) (hS : tx.size ≤ 1000000) (hD : D + (k + 1) = 500) : Calls Tryd.prog 9 #[.pointer (some ⟨gt, 0, none⟩)] w0 (RP B wb gt tx p D L0 (rp.raw (k + 1) ((ints tx).drop p))) := by
  refine c_enter_d (args := [.pointer (some ⟨gt, 0, none⟩)]) (k := 200) Tryd.func9 rfl rfl rfl (fun a S => ?_)
  refine wp_seq ?_
  refine c_region ?_
  refine l_box (cs := #[.pointer (some ⟨gt, 0, none⟩)]) S H rfl rfl (fun w => bx) rfl rfl rfl ?_; clear S a H; intro gx w a H S
  refine l_pure S (p_assign rfl) rfl rfl rfl ?_; clear S a; intro a S
  refine l_nil ?_
  refine e_then ?_
  refine wp_seq ?_
  refine c_region ?_
  refine l_read S H (r_load rfl List.mem_cons_self rfl (fun w hc => ld1 ag27 hc)) rfl rfl rfl ?_; clear S a; intro a S
  refine l_pure S (p_nilCheck rfl) rfl rfl rfl ?_; clear S a; intro a S
  refine l_pure S (p_fieldAddr rfl (fun w => fa31_3 w _ _)) rfl rfl rfl ?_; clear S a; intro a S
  refine l_read S H (r_load rfl (List.mem_cons_of_mem _ List.mem_cons_self) rfl (fun w hc => ld1 ag3 hc)) rfl rfl rfl ?_; clear S a; intro a S
  refine l_pure S (p_add rfl rfl (nat_add (x := D) (y := 1) (by omega))) rfl rfl rfl ?_; clear S a; intro a S
  refine l_pure S (p_nilCheck rfl) rfl rfl rfl ?_; clear S a; intro a S
  refine l_pure S (p_fieldAddr rfl (fun w => fa31_3 w _ _)) rfl rfl rfl ?_; clear S a; intro a S
  refine l_store S H rfl rfl rfl (.there .here) (by first | decide | simp [Value.cells]) (fun w u hc hz => st1 sz3 rfl hc hz) rfl rfl ?_; clear S a H; intro w a H S
  refine l_nil ?_
  refine e_then ?_
  refine wp_seq ?_
  refine c_region ?_
  refine l_pure S (p_func rfl rfl) rfl rfl rfl ?_; clear S a; intro a S
  refine l_defer (xs := []) (us := []) (vs := []) S rfl rfl rfl rfl rfl ?_; clear S a; intro a S
  refine l_nil ?_
  refine e_then ?_
  refine wp_seq ?_
  refine wp_seq ?_
  refine c_region ?_
  refine l_read S H (r_load rfl List.mem_cons_self rfl (fun w hc => ld1 ag27 hc)) rfl rfl rfl ?_; clear S a; intro a S
  refine l_pure S (p_nilCheck rfl) rfl rfl rfl ?_; clear S a; intro a S
  refine l_pure S (p_fieldAddr rfl (fun w => fa31_3 w _ _)) rfl rfl rfl ?_; clear S a; intro a S
  refine l_read S H (r_load rfl (List.mem_cons_of_mem _ List.mem_cons_self) rfl (fun w hc => ld1 ag3 hc)) rfl rfl rfl ?_; clear S a; intro a S
  refine l_pure S (p_gtr rfl rfl) rfl rfl rfl ?_; clear S a; intro a S
  refine l_nil ?_
  refine e_then ?_
  refine c_cond S rfl (fun c3 => by have c3 := of_decide_eq_true c3; exfalso; omega) (fun c3 => ?_)
  have c3 := of_decide_eq_false c3
  refine wp_skip ?_
  refine e_then ?_
  refine wp_seq ?_
  refine c_region ?_
  refine l_read S H (r_load rfl List.mem_cons_self rfl (fun w hc => ld1 ag27 hc)) rfl rfl rfl ?_; clear S a; intro a S
  refine l_pure S (p_nilCheck rfl) rfl rfl rfl ?_; clear S a; intro a S
  refine l_pure S (p_fieldAddr rfl (fun w => fa31_1 w _ _)) rfl rfl rfl ?_; clear S a; intro a S
  refine l_read S H (r_load rfl (List.mem_cons_of_mem _ List.mem_cons_self) rfl (fun w hc => ld1 ag3 hc)) rfl rfl rfl ?_; clear S a; intro a S
  refine l_pure S (p_assign rfl) rfl rfl rfl ?_; clear S a; intro a S
  refine l_nil ?_
  refine e_then ?_
  refine wp_seq ?_
  refine wp_block ?_
  have hl := ints_len tx
  refine c_loop (σ := Nat) (fun s_ a w => match s_ with | q => SL a 201 [{ target := .fn (.func 22) #[.pointer (some ⟨gx, 0, none⟩)], args := #[] }] [(1, .pointer (some ⟨gx, 0, none⟩)), (2, .bool false), (3, .int .i64 (p : Int))] ∧ HH (B) wb w ((gx, .cells #[.pointer (some ⟨gt, 0, none⟩)] 27 (0, 0)) :: (gt, .cells #[.string tx, .int .i64 ((q : Nat) : Int), .bool false, .int .i64 ((D + 1 : Nat) : Int)] 31 (0, 0)) :: L0) ∧ (p ≤ q ∧ q ≤ tx.size ∧ ∀ i, p ≤ i → i < q → (ints tx).getD i 0 ≠ 10)) (fun s_ => match s_ with | q => tx.size - q) p ⟨S.only ⟨rfl, rfl, rfl, trivial⟩, H, ⟨Nat.le_refl _, hp, fun i h1 h2 => by omega⟩⟩ ?_
  clear S a H; rintro q a w ⟨S, H, hinv⟩
  obtain ⟨hq1, hq2, hq3⟩ := hinv
  have hbq := rp.bti tx q
  refine wp_seq ?_
  refine wp_seq ?_
  refine d_start (id := 7) [] 22 #[false, false, false, false, false, false, false, false, false, false, false, false, false, false, false, false, false, false, false, false, false, false] H rfl rfl rfl (fun w H => ?_)
  refine d_read (i := 0) #[true, false, false, false, false, false, false, false, false, false, false, false, false, false, false, false, false, false, false, false, false, false] S H rfl (r_load rfl List.mem_cons_self rfl (fun w hc => ld1 ag27 hc)) (wanted_none rfl) rfl rfl (by kernel_rfl) (hq_d (fun t => by simp [results, Tryd.results9, Array.getElem?_setIfInBounds])) ?_; clear S a; intro a S
  refine d_pure (i := 1) #[true, true, false, false, false, false, false, false, false, false, false, false, false, false, false, false, false, false, false, false, false, false] S rfl (p_nilCheck rfl) (wanted_none rfl) rfl rfl (by kernel_rfl) (hq_d (fun t => by simp [results, Tryd.results9, Array.getElem?_setIfInBounds])) ?_; clear S a; intro a S
  refine d_pure (i := 2) #[true, true, true, false, false, false, false, false, false, false, false, false, false, false, false, false, false, false, false, false, false, false] S rfl (p_fieldAddr rfl (fun w => fa31_1 w _ _)) (wanted_none rfl) rfl rfl (by kernel_rfl) (hq_d (fun t => by simp [results, Tryd.results9, Array.getElem?_setIfInBounds])) ?_; clear S a; intro a S
  refine d_read (i := 3) #[true, true, true, true, false, false, false, false, false, false, false, false, false, false, false, false, false, false, false, false, false, false] S H rfl (r_load rfl (List.mem_cons_of_mem _ List.mem_cons_self) rfl (fun w hc => ld1 ag3 hc)) (wanted_none rfl) rfl rfl (by kernel_rfl) (hq_d (fun t => by simp [results, Tryd.results9, Array.getElem?_setIfInBounds])) ?_; clear S a; intro a S
  refine d_read (i := 4) #[true, true, true, true, true, false, false, false, false, false, false, false, false, false, false, false, false, false, false, false, false, false] S H rfl (r_load rfl List.mem_cons_self rfl (fun w hc => ld1 ag27 hc)) (wanted_none rfl) rfl rfl (by kernel_rfl) (hq_d (fun t => by simp [results, Tryd.results9, Array.getElem?_setIfInBounds])) ?_; clear S a; intro a S
  refine d_pure (i := 5) #[true, true, true, true, true, true, false, false, false, false, false, false, false, false, false, false, false, false, false, false, false, false] S rfl (p_nilCheck rfl) (wanted_none rfl) rfl rfl (by kernel_rfl) (hq_d (fun t => by simp [results, Tryd.results9, Array.getElem?_setIfInBounds])) ?_; clear S a; intro a S
  refine d_pure (i := 6) #[true, true, true, true, true, true, true, false, false, false, false, false, false, false, false, false, false, false, false, false, false, false] S rfl (p_fieldAddr rfl (fun w => fa31_0 w _ _)) (wanted_none rfl) rfl rfl (by kernel_rfl) (hq_d (fun t => by simp [results, Tryd.results9, Array.getElem?_setIfInBounds])) ?_; clear S a; intro a S
  refine d_read (i := 7) #[true, true, true, true, true, true, true, true, false, false, false, false, false, false, false, false, false, false, false, false, false, false] S H rfl (r_load rfl (List.mem_cons_of_mem _ List.mem_cons_self) rfl (fun w hc => ld1 ag9 hc)) (wanted_none rfl) rfl rfl (by kernel_rfl) (hq_d (fun t => by simp [results, Tryd.results9, Array.getElem?_setIfInBounds])) ?_; clear S a; intro a S
  refine d_pure (i := 8) #[true, true, true, true, true, true, true, true, true, false, false, false, false, false, false, false, false, false, false, false, false, false] S rfl (p_lens Tryd.underlying9 rfl) (wanted_none rfl) rfl rfl (by kernel_rfl) (hq_d (fun t => by simp [results, Tryd.results9, Array.getElem?_setIfInBounds])) ?_; clear S a; intro a S
  refine d_pure (i := 9) #[true, true, true, true, true, true, true, true, true, true, false, false, false, false, false, false, false, false, false, false, false, false] S rfl (p_lss rfl rfl) (wanted_none rfl) rfl rfl (by kernel_rfl) (hq_d (fun t => by simp [results, Tryd.results9, Array.getElem?_setIfInBounds])) ?_; clear S a; intro a S
  refine d_pure (i := 10) #[true, true, true, true, true, true, true, true, true, true, true, false, false, false, false, false, false, false, false, false, false, false] S rfl (p_move rfl) (wanted_none rfl) rfl rfl (by kernel_rfl) (hq_d (fun t => by simp [results, Tryd.results9, Array.getElem?_setIfInBounds])) ?_; clear S a; intro a S
  refine d_split (S.of 40 rfl) (fun bc5 => ?_) (fun bc5 => ?_)
  · skip
    have c5 := bc5
    have c5 := of_decide_eq_true c5
    refine d_read (i := 11) #[true, true, true, true, true, true, true, true, true, true, true, true, false, false, false, false, false, false, false, false, false, false] S H rfl (r_load rfl List.mem_cons_self rfl (fun w hc => ld1 ag27 hc)) (wanted_on S rfl rfl rfl rfl bc5) rfl rfl (by kernel_rfl) (hq_d (fun t => by simp [results, Tryd.results9, Array.getElem?_setIfInBounds])) ?_; clear S a; intro a S
    refine d_pure (i := 12) #[true, true, true, true, true, true, true, true, true, true, true, true, true, false, false, false, false, false, false, false, false, false] S rfl (p_nilCheck rfl) (wanted_on S rfl rfl rfl rfl bc5) rfl rfl (by kernel_rfl) (hq_d (fun t => by simp [results, Tryd.results9, Array.getElem?_setIfInBounds])) ?_; clear S a; intro a S
    refine d_pure (i := 13) #[true, true, true, true, true, true, true, true, true, true, true, true, true, true, false, false, false, false, false, false, false, false] S rfl (p_fieldAddr rfl (fun w => fa31_0 w _ _)) (wanted_on S rfl rfl rfl rfl bc5) rfl rfl (by kernel_rfl) (hq_d (fun t => by simp [results, Tryd.results9, Array.getElem?_setIfInBounds])) ?_; clear S a; intro a S
    refine d_read (i := 14) #[true, true, true, true, true, true, true, true, true, true, true, true, true, true, true, false, false, false, false, false, false, false] S H rfl (r_load rfl (List.mem_cons_of_mem _ List.mem_cons_self) rfl (fun w hc => ld1 ag9 hc)) (wanted_on S rfl rfl rfl rfl bc5) rfl rfl (by kernel_rfl) (hq_d (fun t => by simp [results, Tryd.results9, Array.getElem?_setIfInBounds])) ?_; clear S a; intro a S
    refine d_read (i := 15) #[true, true, true, true, true, true, true, true, true, true, true, true, true, true, true, true, false, false, false, false, false, false] S H rfl (r_load rfl List.mem_cons_self rfl (fun w hc => ld1 ag27 hc)) (wanted_on S rfl rfl rfl rfl bc5) rfl rfl (by kernel_rfl) (hq_d (fun t => by simp [results, Tryd.results9, Array.getElem?_setIfInBounds])) ?_; clear S a; intro a S
    refine d_pure (i := 16) #[true, true, true, true, true, true, true, true, true, true, true, true, true, true, true, true, true, false, false, false, false, false] S rfl (p_nilCheck rfl) (wanted_on S rfl rfl rfl rfl bc5) rfl rfl (by kernel_rfl) (hq_d (fun t => by simp [results, Tryd.results9, Array.getElem?_setIfInBounds])) ?_; clear S a; intro a S
    refine d_pure (i := 17) #[true, true, true, true, true, true, true, true, true, true, true, true, true, true, true, true, true, true, false, false, false, false] S rfl (p_fieldAddr rfl (fun w => fa31_1 w _ _)) (wanted_on S rfl rfl rfl rfl bc5) rfl rfl (by kernel_rfl) (hq_d (fun t => by simp [results, Tryd.results9, Array.getElem?_setIfInBounds])) ?_; clear S a; intro a S
    refine d_read (i := 18) #[true, true, true, true, true, true, true, true, true, true, true, true, true, true, true, true, true, true, true, false, false, false] S H rfl (r_load rfl (List.mem_cons_of_mem _ List.mem_cons_self) rfl (fun w hc => ld1 ag3 hc)) (wanted_on S rfl rfl rfl rfl bc5) rfl rfl (by kernel_rfl) (hq_d (fun t => by simp [results, Tryd.results9, Array.getElem?_setIfInBounds])) ?_; clear S a; intro a S
    refine d_pure (i := 19) #[true, true, true, true, true, true, true, true, true, true, true, true, true, true, true, true, true, true, true, true, false, false] S rfl (p_index rfl rfl (fun w => ix_string Tryd.underlying9 (by omega) (by omega))) (wanted_on S rfl rfl rfl rfl bc5) rfl rfl (by kernel_rfl) (hq_d (fun t => by simp [results, Tryd.results9, Array.getElem?_setIfInBounds])) ?_; clear S a; intro a S
    refine d_pure (i := 20) #[true, true, true, true, true, true, true, true, true, true, true, true, true, true, true, true, true, true, true, true, true, false] S rfl (p_neq rfl rfl) (wanted_on S rfl rfl rfl rfl bc5) rfl rfl (by kernel_rfl) (hq_d (fun t => by simp [results, Tryd.results9, Array.getElem?_setIfInBounds])) ?_; clear S a; intro a S
    refine d_pure (i := 21) #[true, true, true, true, true, true, true, true, true, true, true, true, true, true, true, true, true, true, true, true, true, true] S rfl (p_pick_t rfl bc5 rfl) (wanted_none rfl) rfl rfl (by kernel_rfl) (hq_d (fun t => by simp [results, Tryd.results9, Array.getElem?_setIfInBounds])) ?_; clear S a; intro a S
    refine d_done (by kernel_rfl) ?_
    refine e_then ?_
    refine c_cond S rfl (fun bc7 => ?_) (fun bc7 => ?_)
    · skip
      have c7 := bc7
      have c7 := bne_iff_ne.1 c7
      refine wp_skip ?_
      refine e_then ?_
      refine wp_block ?_
      refine c_region ?_
      refine l_read S H (r_load rfl List.mem_cons_self rfl (fun w hc => ld1 ag27 hc)) rfl rfl rfl ?_; clear S a; intro a S
      refine l_pure S (p_nilCheck rfl) rfl rfl rfl ?_; clear S a; intro a S
      refine l_pure S (p_fieldAddr rfl (fun w => fa31_1 w _ _)) rfl rfl rfl ?_; clear S a; intro a S
      refine l_read S H (r_load rfl (List.mem_cons_of_mem _ List.mem_cons_self) rfl (fun w hc => ld1 ag3 hc)) rfl rfl rfl ?_; clear S a; intro a S
      refine l_pure S (p_add rfl rfl (nat_add (x := q) (y := 1) (by omega))) rfl rfl rfl ?_; clear S a; intro a S
      refine l_pure S (p_nilCheck rfl) rfl rfl rfl ?_; clear S a; intro a S
      refine l_pure S (p_fieldAddr rfl (fun w => fa31_1 w _ _)) rfl rfl rfl ?_; clear S a; intro a S
      refine l_store S H rfl rfl rfl (.there .here) (by first | decide | simp [Value.cells]) (fun w u hc hz => st1 sz3 rfl hc hz) rfl rfl ?_; clear S a H; intro w a H S
      refine l_nil ?_
      refine e_in 1 ?_
      refine e_then ?_
      exact ⟨(q + 1), ⟨S.only ⟨rfl, rfl, rfl, trivial⟩, H, ⟨by omega, by omega, fun i h1 h2 => (Nat.lt_or_ge i q).elim (fun h3 => hq3 i h1 h3) (fun h3 => by rw [show i = q from by omega]; omega)⟩⟩, (show tx.size - (q + 1) < tx.size - q by omega)⟩
    · skip
      have c7 := bc7
      have c7 := bne_eq_false_iff_eq.1 c7
      refine wp_exit ?_
      refine e_then_exit ?_
      refine e_then_exit ?_
      refine e_in_exit ?_
      refine e_then ?_
      refine wp_seq ?_
      refine wp_seq ?_
      refine d_start (id := 9) [] 10 #[false, false, false, false, false, false, false, false, false, false] H rfl rfl rfl (fun w H => ?_)
      refine d_read (i := 0) #[true, false, false, false, false, false, false, false, false, false] S H rfl (r_load rfl List.mem_cons_self rfl (fun w hc => ld1 ag27 hc)) (wanted_none rfl) rfl rfl (by kernel_rfl) (hq_d (fun t => by simp [results, Tryd.results9, Array.getElem?_setIfInBounds])) ?_; clear S a; intro a S
      refine d_pure (i := 1) #[true, true, false, false, false, false, false, false, false, false] S rfl (p_nilCheck rfl) (wanted_none rfl) rfl rfl (by kernel_rfl) (hq_d (fun t => by simp [results, Tryd.results9, Array.getElem?_setIfInBounds])) ?_; clear S a; intro a S
      refine d_pure (i := 2) #[true, true, true, false, false, false, false, false, false, false] S rfl (p_fieldAddr rfl (fun w => fa31_1 w _ _)) (wanted_none rfl) rfl rfl (by kernel_rfl) (hq_d (fun t => by simp [results, Tryd.results9, Array.getElem?_setIfInBounds])) ?_; clear S a; intro a S
      refine d_read (i := 3) #[true, true, true, true, false, false, false, false, false, false] S H rfl (r_load rfl (List.mem_cons_of_mem _ List.mem_cons_self) rfl (fun w hc => ld1 ag3 hc)) (wanted_none rfl) rfl rfl (by kernel_rfl) (hq_d (fun t => by simp [results, Tryd.results9, Array.getElem?_setIfInBounds])) ?_; clear S a; intro a S
      refine d_read (i := 4) #[true, true, true, true, true, false, false, false, false, false] S H rfl (r_load rfl List.mem_cons_self rfl (fun w hc => ld1 ag27 hc)) (wanted_none rfl) rfl rfl (by kernel_rfl) (hq_d (fun t => by simp [results, Tryd.results9, Array.getElem?_setIfInBounds])) ?_; clear S a; intro a S
      refine d_pure (i := 5) #[true, true, true, true, true, true, false, false, false, false] S rfl (p_nilCheck rfl) (wanted_none rfl) rfl rfl (by kernel_rfl) (hq_d (fun t => by simp [results, Tryd.results9, Array.getElem?_setIfInBounds])) ?_; clear S a; intro a S
      refine d_pure (i := 6) #[true, true, true, true, true, true, true, false, false, false] S rfl (p_fieldAddr rfl (fun w => fa31_0 w _ _)) (wanted_none rfl) rfl rfl (by kernel_rfl) (hq_d (fun t => by simp [results, Tryd.results9, Array.getElem?_setIfInBounds])) ?_; clear S a; intro a S
      refine d_read (i := 7) #[true, true, true, true, true, true, true, true, false, false] S H rfl (r_load rfl (List.mem_cons_of_mem _ List.mem_cons_self) rfl (fun w hc => ld1 ag9 hc)) (wanted_none rfl) rfl rfl (by kernel_rfl) (hq_d (fun t => by simp [results, Tryd.results9, Array.getElem?_setIfInBounds])) ?_; clear S a; intro a S
      refine d_pure (i := 8) #[true, true, true, true, true, true, true, true, true, false] S rfl (p_lens Tryd.underlying9 rfl) (wanted_none rfl) rfl rfl (by kernel_rfl) (hq_d (fun t => by simp [results, Tryd.results9, Array.getElem?_setIfInBounds])) ?_; clear S a; intro a S
      refine d_pure (i := 9) #[true, true, true, true, true, true, true, true, true, true] S rfl (p_eql rfl rfl) (wanted_none rfl) rfl rfl (by kernel_rfl) (hq_d (fun t => by simp [results, Tryd.results9, Array.getElem?_setIfInBounds])) ?_; clear S a; intro a S
      refine d_done (by kernel_rfl) ?_
      refine e_then ?_
      refine c_cond S rfl (fun bc9 => ?_) (fun bc9 => ?_)
      · skip
        have c9 := bc9
        have c9 := eq_of_beq c9
        have hfi : rp.fi ((ints tx).drop p) = none := rp.fi_none.2 (fun i hi => by rw [rp.drop_getD]; rw [List.length_drop] at hi; exact hq3 _ (by omega) (by omega))
        refine wp_seq ?_
        refine c_region ?_
        refine l_pure S (p_assign rfl) rfl rfl rfl ?_; clear S a; intro a S
        refine l_nil ?_
        refine e_then ?_
        refine wp_ret ?_
        refine e_then_ret ?_
        -- raw_none {} odd=False ok=False pos=q tests=c5, c7, c9
        exact r_doorR S (clo_ wb _ _ _ gx gt tx (q) D false H (by omega)) (invokes Tryd.func22 rfl rfl) (fun w' hH => res_t1 rfl rfl) (fun w' hH => .inr (.inl ⟨rp.raw_none hfi, rfl, q, hH.tail⟩))
      · skip
        have c9 := bc9
        have c9 := ne_of_beq_false c9
        obtain ⟨j, rfl⟩ : ∃ j, q = p + j := ⟨q - p, by omega⟩
        have hfi : rp.fi ((ints tx).drop p) = some j := rp.fi_some.2 ⟨by rw [List.length_drop]; omega, by rw [rp.drop_getD]; omega, fun i hi => by rw [rp.drop_getD]; exact hq3 _ (by omega) (by omega)⟩
        refine wp_skip ?_
        refine e_then ?_
        refine wp_seq ?_
        refine c_region ?_
        refine l_read S H (r_load rfl List.mem_cons_self rfl (fun w hc => ld1 ag27 hc)) rfl rfl rfl ?_; clear S a; intro a S
        refine l_pure S (p_nilCheck rfl) rfl rfl rfl ?_; clear S a; intro a S
        refine l_pure S (p_fieldAddr rfl (fun w => fa31_1 w _ _)) rfl rfl rfl ?_; clear S a; intro a S
        refine l_read S H (r_load rfl (List.mem_cons_of_mem _ List.mem_cons_self) rfl (fun w hc => ld1 ag3 hc)) rfl rfl rfl ?_; clear S a; intro a S
        refine l_pure S (p_add rfl rfl (nat_add (x := (p + j)) (y := 1) (by omega))) rfl rfl rfl ?_; clear S a; intro a S
        refine l_pure S (p_nilCheck rfl) rfl rfl rfl ?_; clear S a; intro a S
        refine l_pure S (p_fieldAddr rfl (fun w => fa31_1 w _ _)) rfl rfl rfl ?_; clear S a; intro a S
        refine l_store S H rfl rfl rfl (.there .here) (by first | decide | simp [Value.cells]) (fun w u hc hz => st1 sz3 rfl hc hz) rfl rfl ?_; clear S a H; intro w a H S
        refine l_nil ?_
        refine e_then ?_
        refine wp_seq ?_
        refine wp_seq ?_
        refine c_region ?_
        refine l_read S H (r_load rfl List.mem_cons_self rfl (fun w hc => ld1 ag27 hc)) rfl rfl rfl ?_; clear S a; intro a S
        refine l_pure S (p_nilCheck rfl) rfl rfl rfl ?_; clear S a; intro a S
        refine l_pure S (p_fieldAddr rfl (fun w => fa31_1 w _ _)) rfl rfl rfl ?_; clear S a; intro a S
        refine l_read S H (r_load rfl (List.mem_cons_of_mem _ List.mem_cons_self) rfl (fun w hc => ld1 ag3 hc)) rfl rfl rfl ?_; clear S a; intro a S
        refine l_pure S (p_move rfl) rfl rfl rfl ?_; clear S a; intro a S
        refine l_pure S (p_sub rfl rfl (nat_sub (x := ((p + j) + 1)) (y := p) (by omega) (by omega))) rfl rfl rfl ?_; clear S a; intro a S
        refine l_pure S (p_lss rfl rfl) rfl rfl rfl ?_; clear S a; intro a S
        refine l_nil ?_
        refine e_then ?_
        refine c_cond S rfl (fun bc12 => ?_) (fun bc12 => ?_)
        · skip
          have c12 := bc12
          have c12 := of_decide_eq_true c12
          refine wp_seq ?_
          refine c_region ?_
          refine l_pure S (p_assign rfl) rfl rfl rfl ?_; clear S a; intro a S
          refine l_nil ?_
          refine e_then ?_
          refine wp_ret ?_
          refine e_then_ret ?_
          -- raw_short {} odd=False ok=False pos=((p + j) + 1) tests=c5, c7, c9, c12
          exact r_doorR S (clo_ wb _ _ _ gx gt tx (((p + j) + 1)) D false H (by omega)) (invokes Tryd.func22 rfl rfl) (fun w' hH => res_t1 rfl rfl) (fun w' hH => .inr (.inl ⟨rp.raw_short hfi (by omega), rfl, ((p + j) + 1), hH.tail⟩))
        · skip
          have c12 := bc12
          have c12 := of_decide_eq_false c12
          have hj : 2 ≤ j := by omega
          have hb1 := rp.bti tx p
          have hb2 := rp.bti tx (p + j + 1 - 2)
          have hYl := List.length_drop (i := p) (l := ints tx)
          have e0 := rp.drop_getD (ints tx) p 0
          have e1 := rp.drop_getD (ints tx) p (j - 1)
          rw [show p + (j - 1) = p + j + 1 - 2 by omega] at e1
          rw [Nat.add_zero] at e0
          refine wp_skip ?_
          refine e_then ?_
          refine wp_seq ?_
          refine d_start (id := 14) [] 20 #[false, false, false, false, false, false, false, false, false, false, false, false, false, false, false, false, false, false, false, false] H rfl rfl rfl (fun w H => ?_)
          refine d_read (i := 0) #[true, false, false, false, false, false, false, false, false, false, false, false, false, false, false, false, false, false, false, false] S H rfl (r_load rfl List.mem_cons_self rfl (fun w hc => ld1 ag27 hc)) (wanted_none rfl) rfl rfl (by kernel_rfl) (hq_d (fun t => by simp [results, Tryd.results9, Array.getElem?_setIfInBounds])) ?_; clear S a; intro a S
          refine d_pure (i := 1) #[true, true, false, false, false, false, false, false, false, false, false, false, false, false, false, false, false, false, false, false] S rfl (p_nilCheck rfl) (wanted_none rfl) rfl rfl (by kernel_rfl) (hq_d (fun t => by simp [results, Tryd.results9, Array.getElem?_setIfInBounds])) ?_; clear S a; intro a S
          refine d_pure (i := 2) #[true, true, true, false, false, false, false, false, false, false, false, false, false, false, false, false, false, false, false, false] S rfl (p_fieldAddr rfl (fun w => fa31_0 w _ _)) (wanted_none rfl) rfl rfl (by kernel_rfl) (hq_d (fun t => by simp [results, Tryd.results9, Array.getElem?_setIfInBounds])) ?_; clear S a; intro a S
          refine d_read (i := 3) #[true, true, true, true, false, false, false, false, false, false, false, false, false, false, false, false, false, false, false, false] S H rfl (r_load rfl (List.mem_cons_of_mem _ List.mem_cons_self) rfl (fun w hc => ld1 ag9 hc)) (wanted_none rfl) rfl rfl (by kernel_rfl) (hq_d (fun t => by simp [results, Tryd.results9, Array.getElem?_setIfInBounds])) ?_; clear S a; intro a S
          refine d_pure (i := 4) #[true, true, true, true, true, false, false, false, false, false, false, false, false, false, false, false, false, false, false, false] S rfl (p_move rfl) (wanted_none rfl) rfl rfl (by kernel_rfl) (hq_d (fun t => by simp [results, Tryd.results9, Array.getElem?_setIfInBounds])) ?_; clear S a; intro a S
          refine d_pure (i := 5) #[true, true, true, true, true, true, false, false, false, false, false, false, false, false, false, false, false, false, false, false] S rfl (p_index rfl rfl (fun w => ix_string Tryd.underlying9 (by omega) (by omega))) (wanted_none rfl) rfl rfl (by kernel_rfl) (hq_d (fun t => by simp [results, Tryd.results9, Array.getElem?_setIfInBounds])) ?_; clear S a; intro a S
          refine d_read (i := 6) #[true, true, true, true, true, true, true, false, false, false, false, false, false, false, false, false, false, false, false, false] S H rfl (r_load rfl List.mem_cons_self rfl (fun w hc => ld1 ag27 hc)) (wanted_none rfl) rfl rfl (by kernel_rfl) (hq_d (fun t => by simp [results, Tryd.results9, Array.getElem?_setIfInBounds])) ?_; clear S a; intro a S
          refine d_pure (i := 7) #[true, true, true, true, true, true, true, true, false, false, false, false, false, false, false, false, false, false, false, false] S rfl (p_nilCheck rfl) (wanted_none rfl) rfl rfl (by kernel_rfl) (hq_d (fun t => by simp [results, Tryd.results9, Array.getElem?_setIfInBounds])) ?_; clear S a; intro a S
          refine d_pure (i := 8) #[true, true, true, true, true, true, true, true, true, false, false, false, false, false, false, false, false, false, false, false] S rfl (p_fieldAddr rfl (fun w => fa31_0 w _ _)) (wanted_none rfl) rfl rfl (by kernel_rfl) (hq_d (fun t => by simp [results, Tryd.results9, Array.getElem?_setIfInBounds])) ?_; clear S a; intro a S
          refine d_read (i := 9) #[true, true, true, true, true, true, true, true, true, true, false, false, false, false, false, false, false, false, false, false] S H rfl (r_load rfl (List.mem_cons_of_mem _ List.mem_cons_self) rfl (fun w hc => ld1 ag9 hc)) (wanted_none rfl) rfl rfl (by kernel_rfl) (hq_d (fun t => by simp [results, Tryd.results9, Array.getElem?_setIfInBounds])) ?_; clear S a; intro a S
          refine d_pure (i := 10) #[true, true, true, true, true, true, true, true, true, true, true, false, false, false, false, false, false, false, false, false] S rfl (p_move rfl) (wanted_none rfl) rfl rfl (by kernel_rfl) (hq_d (fun t => by simp [results, Tryd.results9, Array.getElem?_setIfInBounds])) ?_; clear S a; intro a S
          refine d_pure (i := 11) #[true, true, true, true, true, true, true, true, true, true, true, true, false, false, false, false, false, false, false, false] S rfl (p_add rfl rfl (nat_add (x := p) (y := 1) (by omega))) (wanted_none rfl) rfl rfl (by kernel_rfl) (hq_d (fun t => by simp [results, Tryd.results9, Array.getElem?_setIfInBounds])) ?_; clear S a; intro a S
          refine d_read (i := 12) #[true, true, true, true, true, true, true, true, true, true, true, true, true, false, false, false, false, false, false, false] S H rfl (r_load rfl List.mem_cons_self rfl (fun w hc => ld1 ag27 hc)) (wanted_none rfl) rfl rfl (by kernel_rfl) (hq_d (fun t => by simp [results, Tryd.results9, Array.getElem?_setIfInBounds])) ?_; clear S a; intro a S
          refine d_pure (i := 13) #[true, true, true, true, true, true, true, true, true, true, true, true, true, true, false, false, false, false, false, false] S rfl (p_nilCheck rfl) (wanted_none rfl) rfl rfl (by kernel_rfl) (hq_d (fun t => by simp [results, Tryd.results9, Array.getElem?_setIfInBounds])) ?_; clear S a; intro a S
          refine d_pure (i := 14) #[true, true, true, true, true, true, true, true, true, true, true, true, true, true, true, false, false, false, false, false] S rfl (p_fieldAddr rfl (fun w => fa31_1 w _ _)) (wanted_none rfl) rfl rfl (by kernel_rfl) (hq_d (fun t => by simp [results, Tryd.results9, Array.getElem?_setIfInBounds])) ?_; clear S a; intro a S
          refine d_read (i := 15) #[true, true, true, true, true, true, true, true, true, true, true, true, true, true, true, true, false, false, false, false] S H rfl (r_load rfl (List.mem_cons_of_mem _ List.mem_cons_self) rfl (fun w hc => ld1 ag3 hc)) (wanted_none rfl) rfl rfl (by kernel_rfl) (hq_d (fun t => by simp [results, Tryd.results9, Array.getElem?_setIfInBounds])) ?_; clear S a; intro a S
          refine d_pure (i := 16) #[true, true, true, true, true, true, true, true, true, true, true, true, true, true, true, true, true, false, false, false] S rfl (p_sub rfl rfl (nat_sub (x := ((p + j) + 1)) (y := 2) (by omega) (by omega))) (wanted_none rfl) rfl rfl (by kernel_rfl) (hq_d (fun t => by simp [results, Tryd.results9, Array.getElem?_setIfInBounds])) ?_; clear S a; intro a S
          refine d_pure (i := 17) #[true, true, true, true, true, true, true, true, true, true, true, true, true, true, true, true, true, true, false, false] S rfl (p_slice rfl (o_some rfl) (o_some rfl) (fun _ _ => o_none) (fun w => sl_strN (m := p + 1) (m' := p + j + 1 - 2) Tryd.underlying9 rfl rfl (by omega) (by omega))) (wanted_none rfl) rfl rfl (by kernel_rfl) (hq_d (fun t => by simp [results, Tryd.results9, Array.getElem?_setIfInBounds])) ?_; clear S a; intro a S
          have hbb := rp.ints_body tx (p := p) hj
          have hbs : (tx.extract (p + 1) (p + j + 1 - 2)).size = j - 2 := by rw [ByteArray.size_extract]; omega
          generalize tx.extract (p + 1) (p + j + 1 - 2) = b at S hbb hbs
          refine d_pure (i := 18) #[true, true, true, true, true, true, true, true, true, true, true, true, true, true, true, true, true, true, true, false] S rfl (p_assign rfl) (wanted_none rfl) rfl rfl (by kernel_rfl) (hq_d (fun t => by simp [results, Tryd.results9, Array.getElem?_setIfInBounds])) ?_; clear S a; intro a S
          refine d_pure (i := 19) #[true, true, true, true, true, true, true, true, true, true, true, true, true, true, true, true, true, true, true, true] S rfl (p_assign rfl) (wanted_none rfl) rfl rfl (by kernel_rfl) (hq_d (fun t => by simp [results, Tryd.results9, Array.getElem?_setIfInBounds])) ?_; clear S a; intro a S
          refine d_done (by kernel_rfl) ?_
          refine e_then ?_
          refine wp_seq ?_
          refine wp_seq ?_
          refine d_start (id := 15) [] 11 #[false, false, false, false, false, false, false, false, false, false, false] H rfl rfl rfl (fun w H => ?_)
          refine d_read (i := 0) #[true, false, false, false, false, false, false, false, false, false, false] S H rfl (r_load rfl List.mem_cons_self rfl (fun w hc => ld1 ag27 hc)) (wanted_none rfl) rfl rfl (by kernel_rfl) (hq_d (fun t => by simp [results, Tryd.results9, Array.getElem?_setIfInBounds])) ?_; clear S a; intro a S
          refine d_pure (i := 1) #[true, true, false, false, false, false, false, false, false, false, false] S rfl (p_nilCheck rfl) (wanted_none rfl) rfl rfl (by kernel_rfl) (hq_d (fun t => by simp [results, Tryd.results9, Array.getElem?_setIfInBounds])) ?_; clear S a; intro a S
          refine d_pure (i := 2) #[true, true, true, false, false, false, false, false, false, false, false] S rfl (p_fieldAddr rfl (fun w => fa31_0 w _ _)) (wanted_none rfl) rfl rfl (by kernel_rfl) (hq_d (fun t => by simp [results, Tryd.results9, Array.getElem?_setIfInBounds])) ?_; clear S a; intro a S
          refine d_read (i := 3) #[true, true, true, true, false, false, false, false, false, false, false] S H rfl (r_load rfl (List.mem_cons_of_mem _ List.mem_cons_self) rfl (fun w hc => ld1 ag9 hc)) (wanted_none rfl) rfl rfl (by kernel_rfl) (hq_d (fun t => by simp [results, Tryd.results9, Array.getElem?_setIfInBounds])) ?_; clear S a; intro a S
          refine d_read (i := 4) #[true, true, true, true, true, false, false, false, false, false, false] S H rfl (r_load rfl List.mem_cons_self rfl (fun w hc => ld1 ag27 hc)) (wanted_none rfl) rfl rfl (by kernel_rfl) (hq_d (fun t => by simp [results, Tryd.results9, Array.getElem?_setIfInBounds])) ?_; clear S a; intro a S
          refine d_pure (i := 5) #[true, true, true, true, true, true, false, false, false, false, false] S rfl (p_nilCheck rfl) (wanted_none rfl) rfl rfl (by kernel_rfl) (hq_d (fun t => by simp [results, Tryd.results9, Array.getElem?_setIfInBounds])) ?_; clear S a; intro a S
          refine d_pure (i := 6) #[true, true, true, true, true, true, true, false, false, false, false] S rfl (p_fieldAddr rfl (fun w => fa31_1 w _ _)) (wanted_none rfl) rfl rfl (by kernel_rfl) (hq_d (fun t => by simp [results, Tryd.results9, Array.getElem?_setIfInBounds])) ?_; clear S a; intro a S
          refine d_read (i := 7) #[true, true, true, true, true, true, true, true, false, false, false] S H rfl (r_load rfl (List.mem_cons_of_mem _ List.mem_cons_self) rfl (fun w hc => ld1 ag3 hc)) (wanted_none rfl) rfl rfl (by kernel_rfl) (hq_d (fun t => by simp [results, Tryd.results9, Array.getElem?_setIfInBounds])) ?_; clear S a; intro a S
          refine d_pure (i := 8) #[true, true, true, true, true, true, true, true, true, false, false] S rfl (p_sub rfl rfl (nat_sub (x := ((p + j) + 1)) (y := 2) (by omega) (by omega))) (wanted_none rfl) rfl rfl (by kernel_rfl) (hq_d (fun t => by simp [results, Tryd.results9, Array.getElem?_setIfInBounds])) ?_; clear S a; intro a S
          refine d_pure (i := 9) #[true, true, true, true, true, true, true, true, true, true, false] S rfl (p_index rfl rfl (fun w => ix_string Tryd.underlying9 (by omega) (by omega))) (wanted_none rfl) rfl rfl (by kernel_rfl) (hq_d (fun t => by simp [results, Tryd.results9, Array.getElem?_setIfInBounds])) ?_; clear S a; intro a S
          refine d_pure (i := 10) #[true, true, true, true, true, true, true, true, true, true, true] S rfl (p_neq rfl rfl) (wanted_none rfl) rfl rfl (by kernel_rfl) (hq_d (fun t => by simp [results, Tryd.results9, Array.getElem?_setIfInBounds])) ?_; clear S a; intro a S
          refine d_done (by kernel_rfl) ?_
          refine e_then ?_
          refine c_cond S rfl (fun bc15 => ?_) (fun bc15 => ?_)
          · skip
            have c15 := bc15
            have c15 := bne_iff_ne.1 c15
            refine wp_seq ?_
            refine c_region ?_
            refine l_read S H (r_load rfl List.mem_cons_self rfl (fun w hc => ld1 ag27 hc)) rfl rfl rfl ?_; clear S a; intro a S
            refine l_pure S (p_nilCheck rfl) rfl rfl rfl ?_; clear S a; intro a S
            refine l_pure S (p_fieldAddr rfl (fun w => fa31_2 w _ _)) rfl rfl rfl ?_; clear S a; intro a S
            refine l_store S H rfl rfl rfl (.there .here) (by first | decide | simp [Value.cells]) (fun w u hc hz => st1 sz4 rfl hc hz) rfl rfl ?_; clear S a H; intro w a H S
            refine l_nil ?_
            refine e_then ?_
            refine wp_seq ?_
            refine c_region ?_
            refine l_pure S (p_assign rfl) rfl rfl rfl ?_; clear S a; intro a S
            refine l_nil ?_
            refine e_then ?_
            refine wp_ret ?_
            refine e_then_ret ?_
            -- raw_cr {} odd=True ok=False pos=((p + j) + 1) tests=c5, c7, c9, c12, c15
            exact r_doorR S (clo_ wb _ _ _ gx gt tx (((p + j) + 1)) D true H (by omega)) (invokes Tryd.func22 rfl rfl) (fun w' hH => res_t1 rfl rfl) (fun w' hH => .inl ⟨rp.raw_cr hfi hj (by omega), rfl, ((p + j) + 1), hH.tail⟩)
          · skip
            have c15 := bc15
            have c15 := bne_eq_false_iff_eq.1 c15
            have hB := rp.raw_B (k := k) hfi hj (by omega)
            rw [← hbb, ← show HHW.bt tx (p : Int) = ((ints tx).drop p).getD 0 0 from hb1.trans e0.symm, List.drop_drop] at hB
            have hkr := HHW.bt_range tx p
            generalize HHW.bt tx (p : Int) = kd at *
            generalize hR : (ints tx).drop (p + (j + 1)) = R at hB
            have hb0 := rp.bt0 b
            have hbn := rp.ints_nil (s := b)
            refine wp_skip ?_
            refine e_then ?_
            refine wp_seq ?_
            refine c_region ?_
            refine l_pure S (p_move rfl) rfl rfl rfl ?_; clear S a; intro a S
            refine l_call S rfl rfl Tryd.func23 rfl rfl (sp.many_ wb _ _ _ kd H) rfl rfl rfl ?_
            rintro e w ⟨rfl, hH⟩
            refine ⟨_, rfl, ?_⟩; clear S a; intro a S
            clear H; have H := hH; clear hH
            refine l_pure S (p_move rfl) rfl rfl rfl ?_; clear S a; intro a S
            refine l_pure S (p_extract rfl rfl) rfl rfl rfl ?_; clear S a; intro a S
            refine l_pure S (p_extract rfl rfl) rfl rfl rfl ?_; clear S a; intro a S
            refine l_pure S (p_assign rfl) rfl rfl rfl ?_; clear S a; intro a S
            refine l_pure S (p_assign rfl) rfl rfl rfl ?_; clear S a; intro a S
            refine l_nil ?_
            refine e_then ?_
            refine c_cut (fun a w => SL a 201 [{ target := .fn (.func 22) #[.pointer (some ⟨gx, 0, none⟩)], args := #[] }] [(1, .pointer (some ⟨gx, 0, none⟩)), (2, .bool false), (4, .int .u8 kd), (5, .string b), (6, .int .i64 (rp.many kd : Int)), (7, .bool (decide (rp.many kd ≠ 0)))] ∧ HH (B) wb w ((gx, .cells #[.pointer (some ⟨gt, 0, none⟩)] 27 (0, 0)) :: (gt, .cells #[.string tx, .int .i64 ((p + j + 1 : Nat) : Int), .bool false, .int .i64 ((D + 1 : Nat) : Int)] 31 (0, 0)) :: L0) ∧ rp.NT kd (ints b)) ?_ ?_
            · clear S a H; rintro a w ⟨S, H, hinv⟩
              have hnt := hinv
              refine wp_seq ?_
              refine c_region ?_
              refine l_read S H (r_load rfl List.mem_cons_self rfl (fun w hc => ld1 ag27 hc)) rfl rfl rfl ?_; clear S a; intro a S
              refine l_pure S (p_move rfl) rfl rfl rfl ?_; clear S a; intro a S
              have hcon := sq.size_ wb _ _ _ gt tx (p + j + 1) (D + 1) b H.pull1 (by omega)
              refine l_call S rfl rfl Tryd.func26 rfl rfl hcon rfl rfl rfl ?_
              rintro e w ⟨n, ok, od', rfl, hH, ⟨hsz, rfl, rfl⟩ | ⟨hsz, rfl, rfl⟩ | ⟨hsz, rfl, rfl⟩⟩
              · skip
                refine ⟨_, rfl, ?_⟩; clear S a; intro a S; clear H hcon; have H := hH.pull1; clear hH
                refine l_pure S (p_move rfl) rfl rfl rfl ?_; clear S a; intro a S
                refine l_pure S (p_extract rfl rfl) rfl rfl rfl ?_; clear S a; intro a S
                refine l_pure S (p_extract rfl rfl) rfl rfl rfl ?_; clear S a; intro a S
                refine l_pure S (p_assign rfl) rfl rfl rfl ?_; clear S a; intro a S
                refine l_pure S (p_assign rfl) rfl rfl rfl ?_; clear S a; intro a S
                refine l_nil ?_
                refine e_then ?_
                refine wp_seq ?_
                refine wp_block ?_
                refine wp_seq ?_
                refine c_region ?_
                refine l_pure S (p_move rfl) rfl rfl rfl ?_; clear S a; intro a S
                refine l_pure S (p_not rfl) rfl rfl rfl ?_; clear S a; intro a S
                refine l_pure S (p_move rfl) rfl rfl rfl ?_; clear S a; intro a S
                refine l_off S rfl rfl rfl rfl rfl rfl rfl ?_; clear S a; intro a S
                refine l_off S rfl rfl rfl rfl rfl rfl rfl ?_; clear S a; intro a S
                refine l_pure S (p_pick_t rfl rfl rfl) rfl rfl rfl ?_; clear S a; intro a S
                refine l_pure S (p_move rfl) rfl rfl rfl ?_; clear S a; intro a S
                refine l_off S rfl rfl rfl rfl rfl rfl rfl ?_; clear S a; intro a S
                refine l_off S rfl rfl rfl rfl rfl rfl rfl ?_; clear S a; intro a S
                refine l_off S rfl rfl rfl rfl rfl rfl rfl ?_; clear S a; intro a S
                refine l_offU S rfl rfl rfl rfl rfl rfl ?_; clear S a; intro a S
                refine l_offU S rfl rfl rfl rfl rfl rfl ?_; clear S a; intro a S
                refine l_off S rfl rfl rfl rfl rfl rfl rfl ?_; clear S a; intro a S
                refine l_pure S (p_pick_t rfl rfl rfl) rfl rfl rfl ?_; clear S a; intro a S
                refine l_pure S (p_assign rfl) rfl rfl rfl ?_; clear S a; intro a S
                refine l_nil ?_
                refine e_then ?_
                refine c_cond (b := true) S rfl (fun _ => ?_) (fun h => by cases h)
                refine wp_seq ?_
                refine c_region ?_
                refine l_pure S (p_move rfl) rfl rfl rfl ?_; clear S a; intro a S
                refine l_pure S (p_assign rfl) rfl rfl rfl ?_; clear S a; intro a S
                refine l_nil ?_
                refine e_then ?_
                refine wp_ret ?_
                refine e_in_ret ?_
                refine e_then_ret ?_
                -- B {'sz': 0, 'rk': 'stop'} odd=True ok=False pos=(p + j + 1) tests=c5, c7, c9, c12, c15
                exact r_doorR S (clo_ wb _ _ _ gx gt tx ((p + j + 1)) D true H (by omega)) (invokes Tryd.func22 rfl rfl) (fun w' hH => res_t1 rfl rfl) (fun w' hH => .inl ⟨(hB.trans (rp.B_odd hnt hsz)), rfl, (p + j + 1), hH.tail⟩)
              · skip
                refine ⟨_, rfl, ?_⟩; clear S a; intro a S; clear H hcon; have H := hH.pull1; clear hH
                refine l_pure S (p_move rfl) rfl rfl rfl ?_; clear S a; intro a S
                refine l_pure S (p_extract rfl rfl) rfl rfl rfl ?_; clear S a; intro a S
                refine l_pure S (p_extract rfl rfl) rfl rfl rfl ?_; clear S a; intro a S
                refine l_pure S (p_assign rfl) rfl rfl rfl ?_; clear S a; intro a S
                refine l_pure S (p_assign rfl) rfl rfl rfl ?_; clear S a; intro a S
                refine l_nil ?_
                refine e_then ?_
                refine wp_seq ?_
                refine wp_block ?_
                refine wp_seq ?_
                refine c_region ?_
                refine l_pure S (p_move rfl) rfl rfl rfl ?_; clear S a; intro a S
                refine l_pure S (p_not rfl) rfl rfl rfl ?_; clear S a; intro a S
                refine l_pure S (p_move rfl) rfl rfl rfl ?_; clear S a; intro a S
                refine l_off S rfl rfl rfl rfl rfl rfl rfl ?_; clear S a; intro a S
                refine l_off S rfl rfl rfl rfl rfl rfl rfl ?_; clear S a; intro a S
                refine l_pure S (p_pick_t rfl rfl rfl) rfl rfl rfl ?_; clear S a; intro a S
                refine l_pure S (p_move rfl) rfl rfl rfl ?_; clear S a; intro a S
                refine l_off S rfl rfl rfl rfl rfl rfl rfl ?_; clear S a; intro a S
                refine l_off S rfl rfl rfl rfl rfl rfl rfl ?_; clear S a; intro a S
                refine l_off S rfl rfl rfl rfl rfl rfl rfl ?_; clear S a; intro a S
                refine l_offU S rfl rfl rfl rfl rfl rfl ?_; clear S a; intro a S
                refine l_offU S rfl rfl rfl rfl rfl rfl ?_; clear S a; intro a S
                refine l_off S rfl rfl rfl rfl rfl rfl rfl ?_; clear S a; intro a S
                refine l_pure S (p_pick_t rfl rfl rfl) rfl rfl rfl ?_; clear S a; intro a S
                refine l_pure S (p_assign rfl) rfl rfl rfl ?_; clear S a; intro a S
                refine l_nil ?_
                refine e_then ?_
                refine c_cond (b := true) S rfl (fun _ => ?_) (fun h => by cases h)
                refine wp_seq ?_
                refine c_region ?_
                refine l_pure S (p_move rfl) rfl rfl rfl ?_; clear S a; intro a S
                refine l_pure S (p_assign rfl) rfl rfl rfl ?_; clear S a; intro a S
                refine l_nil ?_
                refine e_then ?_
                refine wp_ret ?_
                refine e_in_ret ?_
                refine e_then_ret ?_
                -- B {'sz': 1, 'rk': 'stop'} odd=False ok=False pos=(p + j + 1) tests=c5, c7, c9, c12, c15
                exact r_doorR S (clo_ wb _ _ _ gx gt tx ((p + j + 1)) D false H (by omega)) (invokes Tryd.func22 rfl rfl) (fun w' hH => res_t1 rfl rfl) (fun w' hH => .inr (.inl ⟨(hB.trans (rp.B_no hnt hsz)), rfl, (p + j + 1), hH.tail⟩))
              · skip
                refine ⟨_, rfl, ?_⟩; clear S a; intro a S; clear H hcon; have H := hH.pull1; clear hH
                refine l_pure S (p_move rfl) rfl rfl rfl ?_; clear S a; intro a S
                refine l_pure S (p_extract rfl rfl) rfl rfl rfl ?_; clear S a; intro a S
                refine l_pure S (p_extract rfl rfl) rfl rfl rfl ?_; clear S a; intro a S
                refine l_pure S (p_assign rfl) rfl rfl rfl ?_; clear S a; intro a S
                refine l_pure S (p_assign rfl) rfl rfl rfl ?_; clear S a; intro a S
                refine l_nil ?_
                refine e_then ?_
                refine wp_seq ?_
                refine wp_block ?_
                refine wp_seq ?_
                refine c_region ?_
                refine l_pure S (p_move rfl) rfl rfl rfl ?_; clear S a; intro a S
                refine l_pure S (p_not rfl) rfl rfl rfl ?_; clear S a; intro a S
                refine l_pure S (p_move rfl) rfl rfl rfl ?_; clear S a; intro a S
                refine l_on S rfl rfl rfl rfl rfl ?_
                refine l_pure S (p_move rfl) rfl rfl rfl ?_; clear S a; intro a S
                refine l_on S rfl rfl rfl rfl rfl ?_
                refine l_pure S (p_eql rfl rfl) rfl rfl rfl ?_; clear S a; intro a S
                refine l_pure S (p_pick_f rfl rfl rfl) rfl rfl rfl ?_; clear S a; intro a S
                refine l_pure S (p_move rfl) rfl rfl rfl ?_; clear S a; intro a S
                refine l_split (S.of 173 rfl) (fun bc31 => ?_) (fun bc31 => ?_)
                · skip
                  have c31 := bc31
                  have c31 := eq_of_beq c31
                  refine l_off S rfl rfl rfl rfl bc31 rfl rfl ?_; clear S a; intro a S
                  refine l_off S rfl rfl rfl rfl bc31 rfl rfl ?_; clear S a; intro a S
                  refine l_off S rfl rfl rfl rfl bc31 rfl rfl ?_; clear S a; intro a S
                  refine l_offU S rfl rfl rfl rfl rfl rfl ?_; clear S a; intro a S
                  refine l_offU S rfl rfl rfl rfl rfl rfl ?_; clear S a; intro a S
                  refine l_off S rfl rfl rfl rfl bc31 rfl rfl ?_; clear S a; intro a S
                  refine l_pure S (p_pick_t rfl bc31 rfl) rfl rfl rfl ?_; clear S a; intro a S
                  refine l_pure S (p_assign rfl) rfl rfl rfl ?_; clear S a; intro a S
                  refine l_nil ?_
                  refine e_then ?_
                  refine c_cond (b := true) S rfl (fun _ => ?_) (fun h => by cases h)
                  refine wp_seq ?_
                  refine c_region ?_
                  refine l_pure S (p_move rfl) rfl rfl rfl ?_; clear S a; intro a S
                  refine l_pure S (p_assign rfl) rfl rfl rfl ?_; clear S a; intro a S
                  refine l_nil ?_
                  refine e_then ?_
                  refine wp_ret ?_
                  refine e_in_ret ?_
                  refine e_then_ret ?_
                  -- B {'sz': 2, 'rk': 'stop'} odd=False ok=True pos=(p + j + 1) tests=c5, c7, c9, c12, c15, c31
                  exact r_doorR S (clo_ wb _ _ _ gx gt tx ((p + j + 1)) D false H (by omega)) (invokes Tryd.func22 rfl rfl) (fun w' hH => res_t1 rfl rfl) (fun w' hH => .inr (.inr ⟨(j + 1), (hB.trans (rp.B_stop hnt hsz (by omega))), rfl, by omega, hH.tail⟩))
                · skip
                  have c31 := bc31
                  have c31 := ne_of_beq_false c31
                  refine l_on S rfl rfl rfl rfl bc31 ?_
                  refine l_pure S (p_move rfl) rfl rfl rfl ?_; clear S a; intro a S
                  refine l_on S rfl rfl rfl rfl bc31 ?_
                  refine l_pure S (p_eql rfl rfl) rfl rfl rfl ?_; clear S a; intro a S
                  refine l_on S rfl rfl rfl rfl bc31 ?_
                  refine l_pure S (p_move rfl) rfl rfl rfl ?_; clear S a; intro a S
                  refine l_split (S.of 176 rfl) (fun bc35 => ?_) (fun bc35 => ?_)
                  · skip
                    have c35 := bc35
                    have c35 := eq_of_beq c35
                    refine l_on S rfl rfl rfl rfl bc35 ?_
                    refine l_pure S (p_move rfl) rfl rfl rfl ?_; clear S a; intro a S
                    refine l_on S rfl rfl rfl rfl bc35 ?_
                    refine l_pure S (p_eql rfl rfl) rfl rfl rfl ?_; clear S a; intro a S
                    refine l_on S rfl rfl rfl rfl bc31 ?_
                    refine l_pure S (p_pick_t rfl bc35 rfl) rfl rfl rfl ?_; clear S a; intro a S
                    refine l_pure S (p_pick_f rfl bc31 rfl) rfl rfl rfl ?_; clear S a; intro a S
                    refine l_pure S (p_assign rfl) rfl rfl rfl ?_; clear S a; intro a S
                    refine l_nil ?_
                    refine e_then ?_
                    refine c_cond S rfl (fun bc37 => ?_) (fun bc37 => ?_)
                    · skip
                      have c37 := bc37
                      have c37 := eq_of_beq c37
                      refine wp_seq ?_
                      refine c_region ?_
                      refine l_pure S (p_move rfl) rfl rfl rfl ?_; clear S a; intro a S
                      refine l_pure S (p_assign rfl) rfl rfl rfl ?_; clear S a; intro a S
                      refine l_nil ?_
                      refine e_then ?_
                      refine wp_ret ?_
                      refine e_in_ret ?_
                      refine e_then_ret ?_
                      -- B {'sz': 2, 'rk': 'stop'} odd=False ok=True pos=(p + j + 1) tests=c5, c7, c9, c12, c15, c31, c35, c37
                      exact r_doorR S (clo_ wb _ _ _ gx gt tx ((p + j + 1)) D false H (by omega)) (invokes Tryd.func22 rfl rfl) (fun w' hH => res_t1 rfl rfl) (fun w' hH => .inr (.inr ⟨(j + 1), (hB.trans (rp.B_stop hnt hsz (by omega))), rfl, by omega, hH.tail⟩))
                    · skip
                      have c37 := bc37
                      have c37 := ne_of_beq_false c37
                      refine wp_seq ?_
                      refine c_region ?_
                      refine l_pure S (p_move rfl) rfl rfl rfl ?_; clear S a; intro a S
                      refine l_pure S (p_assign rfl) rfl rfl rfl ?_; clear S a; intro a S
                      refine l_nil ?_
                      refine e_then ?_
                      refine c_cond S rfl (fun bc39 => ?_) (fun bc39 => ?_)
                      · skip
                        have c39 := bc39
                        have hn1 := rp.size_ge hsz
                        obtain ⟨m, rfl⟩ := Int.eq_ofNat_of_zero_le (show 0 ≤ n by omega)
                        have hmk : rp.many kd ≠ 0 := of_decide_eq_true bc39
                        have hmp := rp.many_pos hmk
                        have hmN : m * rp.many kd ≤ m * 2 := Nat.mul_le_mul_left _ hmp.2
                        refine wp_seq ?_
                        refine wp_seq ?_
                        refine c_region ?_
                        refine l_pure S (p_assign rfl) rfl rfl rfl ?_; clear S a; intro a S
                        refine l_nil ?_
                        refine e_then ?_
                        refine wp_block ?_
                        refine c_loop (σ := Nat × Nat) (fun s_ a w => match s_ with | ⟨i, c⟩ => SL a 201 [{ target := .fn (.func 22) #[.pointer (some ⟨gx, 0, none⟩)], args := #[] }] [(1, .pointer (some ⟨gx, 0, none⟩)), (4, .int .u8 kd), (6, .int .i64 (rp.many kd : Int)), (8, .int .i64 (m : Int)), (9, .int .i64 (i : Int))] ∧ HH (B) wb w ((gx, .cells #[.pointer (some ⟨gt, 0, none⟩)] 27 (0, 0)) :: (gt, .cells #[.string tx, .int .i64 ((p + (j + 1) + c : Nat) : Int), .bool false, .int .i64 ((D + 1 : Nat) : Int)] 31 (0, 0)) :: L0) ∧ (i ≤ m * rp.many kd ∧ p + (j + 1) + c ≤ tx.size ∧ rp.manyR (rp.raw k) (m * rp.many kd) R = (rp.manyR (rp.raw k) (m * rp.many kd - i) (R.drop c)).map (Option.map (c + ·)))) (fun s_ => match s_ with | ⟨i, c⟩ => m * rp.many kd - i) ⟨0, 0⟩ ⟨S.only ⟨rfl, rfl, rfl, rfl, rfl, trivial⟩, H, ⟨Nat.zero_le _, by omega, by rw [Nat.sub_zero, List.drop_zero]; cases rp.manyR (rp.raw k) (m * rp.many kd) R with | none => rfl | some x => cases x <;> simp⟩⟩ ?_
                        clear S a H; rintro ⟨i, c⟩ a w ⟨S, H, hinv⟩
                        obtain ⟨hi, hc, hM⟩ := hinv
                        refine wp_seq ?_
                        refine wp_seq ?_
                        refine c_region ?_
                        refine l_pure S (p_move rfl) rfl rfl rfl ?_; clear S a; intro a S
                        refine l_pure S (p_move rfl) rfl rfl rfl ?_; clear S a; intro a S
                        refine l_pure S (p_move rfl) rfl rfl rfl ?_; clear S a; intro a S
                        refine l_pure S (p_mul rfl rfl (nat_mul (x := m) (y := (rp.many kd)) (by omega))) rfl rfl rfl ?_; clear S a; intro a S
                        refine l_pure S (p_lss rfl rfl) rfl rfl rfl ?_; clear S a; intro a S
                        refine l_nil ?_
                        refine e_then ?_
                        refine c_cond S rfl (fun bc41 => ?_) (fun bc41 => ?_)
                        · skip
                          have c41 := bc41
                          have c41 := of_decide_eq_true c41
                          refine wp_skip ?_
                          refine e_then ?_
                          refine wp_seq ?_
                          refine wp_block ?_
                          refine wp_seq ?_
                          refine c_region ?_
                          refine l_read S H (r_load rfl List.mem_cons_self rfl (fun w hc => ld1 ag27 hc)) rfl rfl rfl ?_; clear S a; intro a S
                          have hcon := ih wb _ B _ gt tx (p + (j + 1) + c) (D + 1) H.pull1 (by omega) hS (by omega)
                          rw [← List.drop_drop, hR] at hcon
                          refine l_call S rfl rfl Tryd.func9 rfl rfl hcon rfl rfl rfl ?_
                          rintro e w (⟨hr, rfl, p1, hH⟩ | ⟨hr, rfl, p1, hH⟩ | ⟨c1, hr, rfl, hc1, hH⟩)
                          · skip
                            refine ⟨_, rfl, ?_⟩; clear S a; intro a S; clear H hcon; have H := hH.pull1; clear hH
                            refine l_pure S (p_not rfl) rfl rfl rfl ?_; clear S a; intro a S
                            refine l_nil ?_
                            refine e_then ?_
                            refine c_cond (b := true) S rfl (fun _ => ?_) (fun h => by cases h)
                            refine wp_seq ?_
                            refine c_region ?_
                            refine l_pure S (p_assign rfl) rfl rfl rfl ?_; clear S a; intro a S
                            refine l_nil ?_
                            refine e_then ?_
                            refine wp_ret ?_
                            refine e_in_ret ?_
                            refine e_then_ret ?_
                            refine e_then_ret ?_
                            refine e_in_ret ?_
                            refine e_then_ret ?_
                            refine e_in_ret ?_
                            refine e_then_ret ?_
                            -- B {'sz': 2, 'm': 1, 'rec': 0} odd=True ok=False pos=p1 tests=c5, c7, c9, c12, c15, c31, c35, c37, c39, c41
                            exact r_doorR S (clo_ wb _ _ _ gx gt tx (p1) D true H (by omega)) (invokes Tryd.func22 rfl rfl) (fun w' hH => res_t1 rfl rfl) (fun w' hH => .inl ⟨(hB.trans (rp.B_many hnt hsz (by omega) hmk (rp.many_odd (by omega) hM hr))), rfl, p1, hH.tail⟩)
                          · skip
                            refine ⟨_, rfl, ?_⟩; clear S a; intro a S; clear H hcon; have H := hH.pull1; clear hH
                            refine l_pure S (p_not rfl) rfl rfl rfl ?_; clear S a; intro a S
                            refine l_nil ?_
                            refine e_then ?_
                            refine c_cond (b := true) S rfl (fun _ => ?_) (fun h => by cases h)
                            refine wp_seq ?_
                            refine c_region ?_
                            refine l_pure S (p_assign rfl) rfl rfl rfl ?_; clear S a; intro a S
                            refine l_nil ?_
                            refine e_then ?_
                            refine wp_ret ?_
                            refine e_in_ret ?_
                            refine e_then_ret ?_
                            refine e_then_ret ?_
                            refine e_in_ret ?_
                            refine e_then_ret ?_
                            refine e_in_ret ?_
                            refine e_then_ret ?_
                            -- B {'sz': 2, 'm': 1, 'rec': 1} odd=False ok=False pos=p1 tests=c5, c7, c9, c12, c15, c31, c35, c37, c39, c41
                            exact r_doorR S (clo_ wb _ _ _ gx gt tx (p1) D false H (by omega)) (invokes Tryd.func22 rfl rfl) (fun w' hH => res_t1 rfl rfl) (fun w' hH => .inr (.inl ⟨(hB.trans (rp.B_many hnt hsz (by omega) hmk (rp.many_no (by omega) hM hr))), rfl, p1, hH.tail⟩))
                          · skip
                            refine ⟨_, rfl, ?_⟩; clear S a; intro a S; clear H hcon; have H := hH.pull1; clear hH
                            rw [Nat.add_assoc (p + (j + 1)) c c1] at H
                            refine l_pure S (p_not rfl) rfl rfl rfl ?_; clear S a; intro a S
                            refine l_nil ?_
                            refine e_then ?_
                            refine c_cond (b := false) S rfl (fun h => by cases h) (fun _ => ?_)
                            refine wp_skip ?_
                            refine e_in 5 ?_
                            refine e_then ?_
                            refine c_region ?_
                            refine l_pure S (p_move rfl) rfl rfl rfl ?_; clear S a; intro a S
                            refine l_pure S (p_add rfl rfl (nat_add (x := i) (y := 1) (by omega))) rfl rfl rfl ?_; clear S a; intro a S
                            refine l_pure S (p_assign rfl) rfl rfl rfl ?_; clear S a; intro a S
                            refine l_nil ?_
                            refine e_then ?_
                            exact ⟨⟨i + 1, c + c1⟩, ⟨S.only ⟨rfl, rfl, rfl, rfl, rfl, trivial⟩, H, ⟨by omega, by omega, rp.many_yes (by omega) hM hr⟩⟩, (show m * rp.many kd - (i + 1) < m * rp.many kd - i by omega)⟩
                        · skip
                          have c41 := bc41
                          have c41 := of_decide_eq_false c41
                          refine wp_exit ?_
                          refine e_then_exit ?_
                          refine e_then_exit ?_
                          refine e_in_exit ?_
                          refine e_then ?_
                          refine wp_seq ?_
                          refine c_region ?_
                          refine l_pure S (p_assign rfl) rfl rfl rfl ?_; clear S a; intro a S
                          refine l_nil ?_
                          refine e_then ?_
                          refine wp_ret ?_
                          refine e_in_ret ?_
                          refine e_then_ret ?_
                          -- B {'sz': 2, 'm': 1, 'rk': 'mdone'} odd=False ok=True pos=(p + (j + 1) + c) tests=c5, c7, c9, c12, c15, c31, c35, c37, c39, c41
                          rw [Nat.add_assoc p (j + 1) c] at H
                          exact r_doorR S (clo_ wb _ _ _ gx gt tx (p + (j + 1 + c)) D false H (by omega)) (invokes Tryd.func22 rfl rfl) (fun w' hH => res_t1 rfl rfl) (fun w' hH => .inr (.inr ⟨(j + 1 + c), (hB.trans (rp.B_many hnt hsz (by omega) hmk (rp.many_done (by omega) hM))), rfl, by omega, hH.tail⟩))
                      · skip
                        have c39 := bc39
                        have hn1 := rp.size_ge hsz
                        obtain ⟨m, rfl⟩ := Int.eq_ofNat_of_zero_le (show 0 ≤ n by omega)
                        have hmk : rp.many kd = 0 := by simpa using (of_decide_eq_false bc39 : ¬ rp.many kd ≠ 0)
                        refine wp_skip ?_
                        refine e_in 3 ?_
                        refine e_then ?_
                        refine wp_seq ?_
                        refine c_region ?_
                        refine l_read S H (r_load rfl List.mem_cons_self rfl (fun w hc => ld1 ag27 hc)) rfl rfl rfl ?_; clear S a; intro a S
                        refine l_pure S (p_move rfl) rfl rfl rfl ?_; clear S a; intro a S
                        have hcon := sq.body_ wb _ _ _ gt tx (p + j + 1) (D + 1) m H.pull1 (by omega) hS (by omega)
                        rw [show p + j + 1 = p + (j + 1) by omega, hR] at hcon
                        refine l_call S rfl rfl Tryd.func27 rfl rfl hcon rfl rfl rfl ?_
                        rintro e w ⟨str, ok, od', p1, rfl, hH, ⟨hr, rfl, rfl⟩ | ⟨hr, rfl, rfl⟩ | ⟨c1, hr, rfl, rfl, rfl⟩⟩
                        · skip
                          refine ⟨_, rfl, ?_⟩; clear S a; intro a S; clear H hcon; have H := hH.pull1; clear hH
                          refine l_pure S (p_move rfl) rfl rfl rfl ?_; clear S a; intro a S
                          refine l_pure S (p_extract rfl rfl) rfl rfl rfl ?_; clear S a; intro a S
                          refine l_pure S (p_extract rfl rfl) rfl rfl rfl ?_; clear S a; intro a S
                          refine l_pure S (p_assign rfl) rfl rfl rfl ?_; clear S a; intro a S
                          refine l_nil ?_
                          refine e_then ?_
                          refine wp_seq ?_
                          refine c_region ?_
                          refine l_pure S (p_move rfl) rfl rfl rfl ?_; clear S a; intro a S
                          refine l_pure S (p_assign rfl) rfl rfl rfl ?_; clear S a; intro a S
                          refine l_nil ?_
                          refine e_then ?_
                          refine wp_ret ?_
                          -- B {'sz': 2, 'm': 2, 'bod': 0} odd=True ok=False pos=p1 tests=c5, c7, c9, c12, c15, c31, c35, c37, c39
                          exact r_doorR S (clo_ wb _ _ _ gx gt tx (p1) D true H (by omega)) (invokes Tryd.func22 rfl rfl) (fun w' hH => res_t1 rfl rfl) (fun w' hH => .inl ⟨(hB.trans (rp.B_body hnt hsz (by omega) hmk hr)), rfl, p1, hH.tail⟩)
                        · skip
                          refine ⟨_, rfl, ?_⟩; clear S a; intro a S; clear H hcon; have H := hH.pull1; clear hH
                          refine l_pure S (p_move rfl) rfl rfl rfl ?_; clear S a; intro a S
                          refine l_pure S (p_extract rfl rfl) rfl rfl rfl ?_; clear S a; intro a S
                          refine l_pure S (p_extract rfl rfl) rfl rfl rfl ?_; clear S a; intro a S
                          refine l_pure S (p_assign rfl) rfl rfl rfl ?_; clear S a; intro a S
                          refine l_nil ?_
                          refine e_then ?_
                          refine wp_seq ?_
                          refine c_region ?_
                          refine l_pure S (p_move rfl) rfl rfl rfl ?_; clear S a; intro a S
                          refine l_pure S (p_assign rfl) rfl rfl rfl ?_; clear S a; intro a S
                          refine l_nil ?_
                          refine e_then ?_
                          refine wp_ret ?_
                          -- B {'sz': 2, 'm': 2, 'bod': 1} odd=False ok=False pos=p1 tests=c5, c7, c9, c12, c15, c31, c35, c37, c39
                          exact r_doorR S (clo_ wb _ _ _ gx gt tx (p1) D false H (by omega)) (invokes Tryd.func22 rfl rfl) (fun w' hH => res_t1 rfl rfl) (fun w' hH => .inr (.inl ⟨(hB.trans (rp.B_body hnt hsz (by omega) hmk hr)), rfl, p1, hH.tail⟩))
                        · skip
                          refine ⟨_, rfl, ?_⟩; clear S a; intro a S; clear H hcon; have H := hH.pull1; clear hH
                          have hle := rp.body_le hr
                          have hRl : R.length = tx.size - (p + (j + 1)) := by rw [← hR, List.length_drop, hl]
                          refine l_pure S (p_move rfl) rfl rfl rfl ?_; clear S a; intro a S
                          refine l_pure S (p_extract rfl rfl) rfl rfl rfl ?_; clear S a; intro a S
                          refine l_pure S (p_extract rfl rfl) rfl rfl rfl ?_; clear S a; intro a S
                          refine l_pure S (p_assign rfl) rfl rfl rfl ?_; clear S a; intro a S
                          refine l_nil ?_
                          refine e_then ?_
                          refine wp_seq ?_
                          refine c_region ?_
                          refine l_pure S (p_move rfl) rfl rfl rfl ?_; clear S a; intro a S
                          refine l_pure S (p_assign rfl) rfl rfl rfl ?_; clear S a; intro a S
                          refine l_nil ?_
                          refine e_then ?_
                          refine wp_ret ?_
                          -- B {'sz': 2, 'm': 2, 'bod': 2} odd=False ok=True pos=(p + (j + 1) + c1) tests=c5, c7, c9, c12, c15, c31, c35, c37, c39
                          rw [Nat.add_assoc p (j + 1) c1] at H
                          exact r_doorR S (clo_ wb _ _ _ gx gt tx (p + (j + 1 + c1)) D false H (by omega)) (invokes Tryd.func22 rfl rfl) (fun w' hH => res_t1 rfl rfl) (fun w' hH => .inr (.inr ⟨(j + 1 + c1), (hB.trans (rp.B_body hnt hsz (by omega) hmk hr)), rfl, by omega, hH.tail⟩))
                  · skip
                    have c35 := bc35
                    have c35 := ne_of_beq_false c35
                    refine l_off S rfl rfl rfl rfl bc35 rfl rfl ?_; clear S a; intro a S
                    refine l_off S rfl rfl rfl rfl bc35 rfl rfl ?_; clear S a; intro a S
                    refine l_on S rfl rfl rfl rfl bc31 ?_
                    refine l_pure S (p_pick_f rfl bc35 rfl) rfl rfl rfl ?_; clear S a; intro a S
                    refine l_pure S (p_pick_f rfl bc31 rfl) rfl rfl rfl ?_; clear S a; intro a S
                    refine l_pure S (p_assign rfl) rfl rfl rfl ?_; clear S a; intro a S
                    refine l_nil ?_
                    refine e_then ?_
                    refine c_cond (b := false) S rfl (fun h => by cases h) (fun _ => ?_)
                    refine wp_seq ?_
                    refine c_region ?_
                    refine l_pure S (p_move rfl) rfl rfl rfl ?_; clear S a; intro a S
                    refine l_pure S (p_assign rfl) rfl rfl rfl ?_; clear S a; intro a S
                    refine l_nil ?_
                    refine e_then ?_
                    refine c_cond S rfl (fun bc60 => ?_) (fun bc60 => ?_)
                    · skip
                      have c60 := bc60
                      have hn1 := rp.size_ge hsz
                      obtain ⟨m, rfl⟩ := Int.eq_ofNat_of_zero_le (show 0 ≤ n by omega)
                      have hmk : rp.many kd ≠ 0 := of_decide_eq_true bc60
                      have hmp := rp.many_pos hmk
                      have hmN : m * rp.many kd ≤ m * 2 := Nat.mul_le_mul_left _ hmp.2
                      refine wp_seq ?_
                      refine wp_seq ?_
                      refine c_region ?_
                      refine l_pure S (p_assign rfl) rfl rfl rfl ?_; clear S a; intro a S
                      refine l_nil ?_
                      refine e_then ?_
                      refine wp_block ?_
                      refine c_loop (σ := Nat × Nat) (fun s_ a w => match s_ with | ⟨i, c⟩ => SL a 201 [{ target := .fn (.func 22) #[.pointer (some ⟨gx, 0, none⟩)], args := #[] }] [(1, .pointer (some ⟨gx, 0, none⟩)), (4, .int .u8 kd), (6, .int .i64 (rp.many kd : Int)), (8, .int .i64 (m : Int)), (9, .int .i64 (i : Int))] ∧ HH (B) wb w ((gx, .cells #[.pointer (some ⟨gt, 0, none⟩)] 27 (0, 0)) :: (gt, .cells #[.string tx, .int .i64 ((p + (j + 1) + c : Nat) : Int), .bool false, .int .i64 ((D + 1 : Nat) : Int)] 31 (0, 0)) :: L0) ∧ (i ≤ m * rp.many kd ∧ p + (j + 1) + c ≤ tx.size ∧ rp.manyR (rp.raw k) (m * rp.many kd) R = (rp.manyR (rp.raw k) (m * rp.many kd - i) (R.drop c)).map (Option.map (c + ·)))) (fun s_ => match s_ with | ⟨i, c⟩ => m * rp.many kd - i) ⟨0, 0⟩ ⟨S.only ⟨rfl, rfl, rfl, rfl, rfl, trivial⟩, H, ⟨Nat.zero_le _, by omega, by rw [Nat.sub_zero, List.drop_zero]; cases rp.manyR (rp.raw k) (m * rp.many kd) R with | none => rfl | some x => cases x <;> simp⟩⟩ ?_
                      clear S a H; rintro ⟨i, c⟩ a w ⟨S, H, hinv⟩
                      obtain ⟨hi, hc, hM⟩ := hinv
                      refine wp_seq ?_
                      refine wp_seq ?_
                      refine c_region ?_
                      refine l_pure S (p_move rfl) rfl rfl rfl ?_; clear S a; intro a S
                      refine l_pure S (p_move rfl) rfl rfl rfl ?_; clear S a; intro a S
                      refine l_pure S (p_move rfl) rfl rfl rfl ?_; clear S a; intro a S
                      refine l_pure S (p_mul rfl rfl (nat_mul (x := m) (y := (rp.many kd)) (by omega))) rfl rfl rfl ?_; clear S a; intro a S
                      refine l_pure S (p_lss rfl rfl) rfl rfl rfl ?_; clear S a; intro a S
                      refine l_nil ?_
                      refine e_then ?_
                      refine c_cond S rfl (fun bc62 => ?_) (fun bc62 => ?_)
                      · skip
                        have c62 := bc62
                        have c62 := of_decide_eq_true c62
                        refine wp_skip ?_
                        refine e_then ?_
                        refine wp_seq ?_
                        refine wp_block ?_
                        refine wp_seq ?_
                        refine c_region ?_
                        refine l_read S H (r_load rfl List.mem_cons_self rfl (fun w hc => ld1 ag27 hc)) rfl rfl rfl ?_; clear S a; intro a S
                        have hcon := ih wb _ B _ gt tx (p + (j + 1) + c) (D + 1) H.pull1 (by omega) hS (by omega)
                        rw [← List.drop_drop, hR] at hcon
                        refine l_call S rfl rfl Tryd.func9 rfl rfl hcon rfl rfl rfl ?_
                        rintro e w (⟨hr, rfl, p1, hH⟩ | ⟨hr, rfl, p1, hH⟩ | ⟨c1, hr, rfl, hc1, hH⟩)
                        · skip
                          refine ⟨_, rfl, ?_⟩; clear S a; intro a S; clear H hcon; have H := hH.pull1; clear hH
                          refine l_pure S (p_not rfl) rfl rfl rfl ?_; clear S a; intro a S
                          refine l_nil ?_
                          refine e_then ?_
                          refine c_cond (b := true) S rfl (fun _ => ?_) (fun h => by cases h)
                          refine wp_seq ?_
                          refine c_region ?_
                          refine l_pure S (p_assign rfl) rfl rfl rfl ?_; clear S a; intro a S
                          refine l_nil ?_
                          refine e_then ?_
                          refine wp_ret ?_
                          refine e_in_ret ?_
                          refine e_then_ret ?_
                          refine e_then_ret ?_
                          refine e_in_ret ?_
                          refine e_then_ret ?_
                          refine e_in_ret ?_
                          refine e_then_ret ?_
                          -- B {'sz': 2, 'm': 1, 'rec': 0} odd=True ok=False pos=p1 tests=c5, c7, c9, c12, c15, c31, c35, c60, c62
                          exact r_doorR S (clo_ wb _ _ _ gx gt tx (p1) D true H (by omega)) (invokes Tryd.func22 rfl rfl) (fun w' hH => res_t1 rfl rfl) (fun w' hH => .inl ⟨(hB.trans (rp.B_many hnt hsz (by omega) hmk (rp.many_odd (by omega) hM hr))), rfl, p1, hH.tail⟩)
                        · skip
                          refine ⟨_, rfl, ?_⟩; clear S a; intro a S; clear H hcon; have H := hH.pull1; clear hH
                          refine l_pure S (p_not rfl) rfl rfl rfl ?_; clear S a; intro a S
                          refine l_nil ?_
                          refine e_then ?_
                          refine c_cond (b := true) S rfl (fun _ => ?_) (fun h => by cases h)
                          refine wp_seq ?_
                          refine c_region ?_
                          refine l_pure S (p_assign rfl) rfl rfl rfl ?_; clear S a; intro a S
                          refine l_nil ?_
                          refine e_then ?_
                          refine wp_ret ?_
                          refine e_in_ret ?_
                          refine e_then_ret ?_
                          refine e_then_ret ?_
                          refine e_in_ret ?_
                          refine e_then_ret ?_
                          refine e_in_ret ?_
                          refine e_then_ret ?_
                          -- B {'sz': 2, 'm': 1, 'rec': 1} odd=False ok=False pos=p1 tests=c5, c7, c9, c12, c15, c31, c35, c60, c62
                          exact r_doorR S (clo_ wb _ _ _ gx gt tx (p1) D false H (by omega)) (invokes Tryd.func22 rfl rfl) (fun w' hH => res_t1 rfl rfl) (fun w' hH => .inr (.inl ⟨(hB.trans (rp.B_many hnt hsz (by omega) hmk (rp.many_no (by omega) hM hr))), rfl, p1, hH.tail⟩))
                        · skip
                          refine ⟨_, rfl, ?_⟩; clear S a; intro a S; clear H hcon; have H := hH.pull1; clear hH
                          rw [Nat.add_assoc (p + (j + 1)) c c1] at H
                          refine l_pure S (p_not rfl) rfl rfl rfl ?_; clear S a; intro a S
                          refine l_nil ?_
                          refine e_then ?_
                          refine c_cond (b := false) S rfl (fun h => by cases h) (fun _ => ?_)
                          refine wp_skip ?_
                          refine e_in 5 ?_
                          refine e_then ?_
                          refine c_region ?_
                          refine l_pure S (p_move rfl) rfl rfl rfl ?_; clear S a; intro a S
                          refine l_pure S (p_add rfl rfl (nat_add (x := i) (y := 1) (by omega))) rfl rfl rfl ?_; clear S a; intro a S
                          refine l_pure S (p_assign rfl) rfl rfl rfl ?_; clear S a; intro a S
                          refine l_nil ?_
                          refine e_then ?_
                          exact ⟨⟨i + 1, c + c1⟩, ⟨S.only ⟨rfl, rfl, rfl, rfl, rfl, trivial⟩, H, ⟨by omega, by omega, rp.many_yes (by omega) hM hr⟩⟩, (show m * rp.many kd - (i + 1) < m * rp.many kd - i by omega)⟩
                      · skip
                        have c62 := bc62
                        have c62 := of_decide_eq_false c62
                        refine wp_exit ?_
                        refine e_then_exit ?_
                        refine e_then_exit ?_
                        refine e_in_exit ?_
                        refine e_then ?_
                        refine wp_seq ?_
                        refine c_region ?_
                        refine l_pure S (p_assign rfl) rfl rfl rfl ?_; clear S a; intro a S
                        refine l_nil ?_
                        refine e_then ?_
                        refine wp_ret ?_
                        refine e_in_ret ?_
                        refine e_then_ret ?_
                        -- B {'sz': 2, 'm': 1, 'rk': 'mdone'} odd=False ok=True pos=(p + (j + 1) + c) tests=c5, c7, c9, c12, c15, c31, c35, c60, c62
                        rw [Nat.add_assoc p (j + 1) c] at H
                        exact r_doorR S (clo_ wb _ _ _ gx gt tx (p + (j + 1 + c)) D false H (by omega)) (invokes Tryd.func22 rfl rfl) (fun w' hH => res_t1 rfl rfl) (fun w' hH => .inr (.inr ⟨(j + 1 + c), (hB.trans (rp.B_many hnt hsz (by omega) hmk (rp.many_done (by omega) hM))), rfl, by omega, hH.tail⟩))
                    · skip
                      have c60 := bc60
                      have hn1 := rp.size_ge hsz
                      obtain ⟨m, rfl⟩ := Int.eq_ofNat_of_zero_le (show 0 ≤ n by omega)
                      have hmk : rp.many kd = 0 := by simpa using (of_decide_eq_false bc60 : ¬ rp.many kd ≠ 0)
                      refine wp_skip ?_
                      refine e_in 3 ?_
                      refine e_then ?_
                      refine wp_seq ?_
                      refine c_region ?_
                      refine l_read S H (r_load rfl List.mem_cons_self rfl (fun w hc => ld1 ag27 hc)) rfl rfl rfl ?_; clear S a; intro a S
                      refine l_pure S (p_move rfl) rfl rfl rfl ?_; clear S a; intro a S
                      have hcon := sq.body_ wb _ _ _ gt tx (p + j + 1) (D + 1) m H.pull1 (by omega) hS (by omega)
                      rw [show p + j + 1 = p + (j + 1) by omega, hR] at hcon
                      refine l_call S rfl rfl Tryd.func27 rfl rfl hcon rfl rfl rfl ?_
                      rintro e w ⟨str, ok, od', p1, rfl, hH, ⟨hr, rfl, rfl⟩ | ⟨hr, rfl, rfl⟩ | ⟨c1, hr, rfl, rfl, rfl⟩⟩
                      · skip
                        refine ⟨_, rfl, ?_⟩; clear S a; intro a S; clear H hcon; have H := hH.pull1; clear hH
                        refine l_pure S (p_move rfl) rfl rfl rfl ?_; clear S a; intro a S
                        refine l_pure S (p_extract rfl rfl) rfl rfl rfl ?_; clear S a; intro a S
                        refine l_pure S (p_extract rfl rfl) rfl rfl rfl ?_; clear S a; intro a S
                        refine l_pure S (p_assign rfl) rfl rfl rfl ?_; clear S a; intro a S
                        refine l_nil ?_
                        refine e_then ?_
                        refine wp_seq ?_
                        refine c_region ?_
                        refine l_pure S (p_move rfl) rfl rfl rfl ?_; clear S a; intro a S
                        refine l_pure S (p_assign rfl) rfl rfl rfl ?_; clear S a; intro a S
                        refine l_nil ?_
                        refine e_then ?_
                        refine wp_ret ?_
                        -- B {'sz': 2, 'm': 2, 'bod': 0} odd=True ok=False pos=p1 tests=c5, c7, c9, c12, c15, c31, c35, c60
                        exact r_doorR S (clo_ wb _ _ _ gx gt tx (p1) D true H (by omega)) (invokes Tryd.func22 rfl rfl) (fun w' hH => res_t1 rfl rfl) (fun w' hH => .inl ⟨(hB.trans (rp.B_body hnt hsz (by omega) hmk hr)), rfl, p1, hH.tail⟩)
                      · skip
                        refine ⟨_, rfl, ?_⟩; clear S a; intro a S; clear H hcon; have H := hH.pull1; clear hH
                        refine l_pure S (p_move rfl) rfl rfl rfl ?_; clear S a; intro a S
                        refine l_pure S (p_extract rfl rfl) rfl rfl rfl ?_; clear S a; intro a S
                        refine l_pure S (p_extract rfl rfl) rfl rfl rfl ?_; clear S a; intro a S
                        refine l_pure S (p_assign rfl) rfl rfl rfl ?_; clear S a; intro a S
                        refine l_nil ?_
                        refine e_then ?_
                        refine wp_seq ?_
                        refine c_region ?_
                        refine l_pure S (p_move rfl) rfl rfl rfl ?_; clear S a; intro a S
                        refine l_pure S (p_assign rfl) rfl rfl rfl ?_; clear S a; intro a S
                        refine l_nil ?_
                        refine e_then ?_
                        refine wp_ret ?_
                        -- B {'sz': 2, 'm': 2, 'bod': 1} odd=False ok=False pos=p1 tests=c5, c7, c9, c12, c15, c31, c35, c60
                        exact r_doorR S (clo_ wb _ _ _ gx gt tx (p1) D false H (by omega)) (invokes Tryd.func22 rfl rfl) (fun w' hH => res_t1 rfl rfl) (fun w' hH => .inr (.inl ⟨(hB.trans (rp.B_body hnt hsz (by omega) hmk hr)), rfl, p1, hH.tail⟩))
                      · skip
                        refine ⟨_, rfl, ?_⟩; clear S a; intro a S; clear H hcon; have H := hH.pull1; clear hH
                        have hle := rp.body_le hr
                        have hRl : R.length = tx.size - (p + (j + 1)) := by rw [← hR, List.length_drop, hl]
                        refine l_pure S (p_move rfl) rfl rfl rfl ?_; clear S a; intro a S
                        refine l_pure S (p_extract rfl rfl) rfl rfl rfl ?_; clear S a; intro a S
                        refine l_pure S (p_extract rfl rfl) rfl rfl rfl ?_; clear S a; intro a S
                        refine l_pure S (p_assign rfl) rfl rfl rfl ?_; clear S a; intro a S
                        refine l_nil ?_
                        refine e_then ?_
                        refine wp_seq ?_
                        refine c_region ?_
                        refine l_pure S (p_move rfl) rfl rfl rfl ?_; clear S a; intro a S
                        refine l_pure S (p_assign rfl) rfl rfl rfl ?_; clear S a; intro a S
                        refine l_nil ?_
                        refine e_then ?_
                        refine wp_ret ?_
                        -- B {'sz': 2, 'm': 2, 'bod': 2} odd=False ok=True pos=(p + (j + 1) + c1) tests=c5, c7, c9, c12, c15, c31, c35, c60
                        rw [Nat.add_assoc p (j + 1) c1] at H
                        exact r_doorR S (clo_ wb _ _ _ gx gt tx (p + (j + 1 + c1)) D false H (by omega)) (invokes Tryd.func22 rfl rfl) (fun w' hH => res_t1 rfl rfl) (fun w' hH => .inr (.inr ⟨(j + 1 + c1), (hB.trans (rp.B_body hnt hsz (by omega) hmk hr)), rfl, by omega, hH.tail⟩))
            · skip
              refine wp_block ?_
              refine wp_seq ?_
              refine c_region ?_
              refine l_pure S (p_move rfl) rfl rfl rfl ?_; clear S a; intro a S
              refine l_pure S (p_eql rfl rfl) rfl rfl rfl ?_; clear S a; intro a S
              refine l_pure S (p_move rfl) rfl rfl rfl ?_; clear S a; intro a S
              refine l_split (S.of 123 rfl) (fun bc79 => ?_) (fun bc79 => ?_)
              · skip
                have c79 := bc79
                have c79 := eq_of_beq c79
                refine l_off S rfl rfl rfl rfl bc79 rfl rfl ?_; clear S a; intro a S
                refine l_off S rfl rfl rfl rfl bc79 rfl rfl ?_; clear S a; intro a S
                refine l_pure S (p_pick_t rfl bc79 rfl) rfl rfl rfl ?_; clear S a; intro a S
                refine l_pure S (p_assign rfl) rfl rfl rfl ?_; clear S a; intro a S
                refine l_nil ?_
                refine e_then ?_
                refine c_cond (b := true) S rfl (fun _ => ?_) (fun h => by cases h)
                refine wp_seq ?_
                refine c_region ?_
                refine l_pure S (p_assign rfl) rfl rfl rfl ?_; clear S a; intro a S
                refine l_nil ?_
                refine e_then ?_
                refine wp_ret ?_
                refine e_in_ret ?_
                refine e_then_ret ?_
                -- B {'rk': 'line'} odd=False ok=True pos=((p + j) + 1) tests=c5, c7, c9, c12, c15, c79
                exact r_doorR S (clo_ wb _ _ _ gx gt tx (((p + j) + 1)) D false H (by omega)) (invokes Tryd.func22 rfl rfl) (fun w' hH => res_t1 rfl rfl) (fun w' hH => .inr (.inr ⟨(j + 1), (hB.trans (rp.B_line (by clear S H hB; grind))), rfl, by omega, hH.tail⟩))
              · skip
                have c79 := bc79
                have c79 := ne_of_beq_false c79
                refine l_on S rfl rfl rfl rfl bc79 ?_
                refine l_pure S (p_move rfl) rfl rfl rfl ?_; clear S a; intro a S
                refine l_on S rfl rfl rfl rfl bc79 ?_
                refine l_call S rfl rfl Tryd.func24 rfl rfl (sp.isLine_ wb _ _ _ kd H) rfl rfl rfl ?_
                rintro e w ⟨rfl, hH⟩
                refine ⟨_, rfl, ?_⟩; clear S a; intro a S
                clear H; have H := hH; clear hH
                refine l_pure S (p_pick_f rfl bc79 rfl) rfl rfl rfl ?_; clear S a; intro a S
                refine l_pure S (p_assign rfl) rfl rfl rfl ?_; clear S a; intro a S
                refine l_nil ?_
                refine e_then ?_
                refine c_cond S rfl (fun bc84 => ?_) (fun bc84 => ?_)
                · skip
                  have c84 := bc84
                  refine wp_seq ?_
                  refine c_region ?_
                  refine l_pure S (p_assign rfl) rfl rfl rfl ?_; clear S a; intro a S
                  refine l_nil ?_
                  refine e_then ?_
                  refine wp_ret ?_
                  refine e_in_ret ?_
                  refine e_then_ret ?_
                  -- B {'rk': 'line'} odd=False ok=True pos=((p + j) + 1) tests=c5, c7, c9, c12, c15, c79, c84
                  exact r_doorR S (clo_ wb _ _ _ gx gt tx (((p + j) + 1)) D false H (by omega)) (invokes Tryd.func22 rfl rfl) (fun w' hH => res_t1 rfl rfl) (fun w' hH => .inr (.inr ⟨(j + 1), (hB.trans (rp.B_line (by clear S H hB; grind))), rfl, by omega, hH.tail⟩))
                · skip
                  have c84 := bc84
                  refine wp_seq ?_
                  refine c_region ?_
                  refine l_pure S (p_move rfl) rfl rfl rfl ?_; clear S a; intro a S
                  refine l_pure S (p_not rfl) rfl rfl rfl ?_; clear S a; intro a S
                  refine l_pure S (p_move rfl) rfl rfl rfl ?_; clear S a; intro a S
                  refine l_split (S.of 130 rfl) (fun bc87 => ?_) (fun bc87 => ?_)
                  · skip
                    have c87 := bc87
                    replace c87 := not_eq_true_ c87
                    
                    refine l_on S rfl rfl rfl rfl bc87 ?_
                    refine l_pure S (p_move rfl) rfl rfl rfl ?_; clear S a; intro a S
                    refine l_on S rfl rfl rfl rfl bc87 ?_
                    refine l_call S rfl rfl Tryd.func25 rfl rfl (sp.isBlob_ wb _ _ _ kd H) rfl rfl rfl ?_
                    rintro e w ⟨rfl, hH⟩
                    refine ⟨_, rfl, ?_⟩; clear S a; intro a S
                    clear H; have H := hH; clear hH
                    refine l_on S rfl rfl rfl rfl bc87 ?_
                    refine l_pure S (p_not rfl) rfl rfl rfl ?_; clear S a; intro a S
                    refine l_pure S (p_pick_t rfl bc87 rfl) rfl rfl rfl ?_; clear S a; intro a S
                    refine l_pure S (p_assign rfl) rfl rfl rfl ?_; clear S a; intro a S
                    refine l_nil ?_
                    refine e_then ?_
                    refine c_cond S rfl (fun bc90 => ?_) (fun bc90 => ?_)
                    · skip
                      have c90 := bc90
                      replace c90 := not_eq_true_ c90
                      
                      refine wp_seq ?_
                      refine c_region ?_
                      refine l_pure S (p_assign rfl) rfl rfl rfl ?_; clear S a; intro a S
                      refine l_nil ?_
                      refine e_then ?_
                      refine wp_ret ?_
                      refine e_in_ret ?_
                      refine e_then_ret ?_
                      -- B {'rk': 'unk'} odd=False ok=False pos=((p + j) + 1) tests=c5, c7, c9, c12, c15, c79, c84, c87, c90
                      exact r_doorR S (clo_ wb _ _ _ gx gt tx (((p + j) + 1)) D false H (by omega)) (invokes Tryd.func22 rfl rfl) (fun w' hH => res_t1 rfl rfl) (fun w' hH => .inr (.inl ⟨(hB.trans (rp.B_unk (by clear S H hB; grind) (by clear S H hB; grind))), rfl, ((p + j) + 1), hH.tail⟩))
                    · skip
                      have c90 := bc90
                      replace c90 := not_eq_false_ c90
                      
                      refine wp_seq ?_
                      refine c_region ?_
                      refine l_pure S (p_move rfl) rfl rfl rfl ?_; clear S a; intro a S
                      refine l_pure S (p_lens Tryd.underlying9 rfl) rfl rfl rfl ?_; clear S a; intro a S
                      refine l_pure S (p_eql rfl rfl) rfl rfl rfl ?_; clear S a; intro a S
                      refine l_pure S (p_move rfl) rfl rfl rfl ?_; clear S a; intro a S
                      refine l_split (S.of 139 rfl) (fun bc93 => ?_) (fun bc93 => ?_)
                      · skip
                        have c93 := bc93
                        have c93 := eq_of_beq c93
                        refine l_on S rfl rfl rfl rfl bc93 ?_
                        refine l_pure S (p_move rfl) rfl rfl rfl ?_; clear S a; intro a S
                        refine l_on S rfl rfl rfl rfl bc93 ?_
                        refine l_pure S (p_move rfl) rfl rfl rfl ?_; clear S a; intro a S
                        refine l_on S rfl rfl rfl rfl (not_eq_true_ bc87) ?_
                        refine l_pure S (p_move rfl) rfl rfl rfl ?_; clear S a; intro a S
                        refine l_on S rfl rfl rfl rfl (not_eq_true_ bc87) ?_
                        refine l_pure S (p_eql rfl rfl) rfl rfl rfl ?_; clear S a; intro a S
                        refine l_on S rfl rfl rfl rfl bc93 ?_
                        refine l_pure S (p_pick_f rfl (not_eq_true_ bc87) rfl) rfl rfl rfl ?_; clear S a; intro a S
                        refine l_pure S (p_pick_t rfl bc93 rfl) rfl rfl rfl ?_; clear S a; intro a S
                        refine l_pure S (p_assign rfl) rfl rfl rfl ?_; clear S a; intro a S
                        refine l_nil ?_
                        refine e_then ?_
                        refine c_cond S rfl (fun bc95 => ?_) (fun bc95 => ?_)
                        · skip
                          have c95 := bc95
                          have c95 := eq_of_beq c95
                          refine wp_seq ?_
                          refine c_region ?_
                          refine l_read S H (r_load rfl List.mem_cons_self rfl (fun w hc => ld1 ag27 hc)) rfl rfl rfl ?_; clear S a; intro a S
                          refine l_pure S (p_nilCheck rfl) rfl rfl rfl ?_; clear S a; intro a S
                          refine l_pure S (p_fieldAddr rfl (fun w => fa31_2 w _ _)) rfl rfl rfl ?_; clear S a; intro a S
                          refine l_store S H rfl rfl rfl (.there .here) (by first | decide | simp [Value.cells]) (fun w u hc hz => st1 sz4 rfl hc hz) rfl rfl ?_; clear S a H; intro w a H S
                          refine l_nil ?_
                          refine e_then ?_
                          refine wp_seq ?_
                          refine c_region ?_
                          refine l_pure S (p_assign rfl) rfl rfl rfl ?_; clear S a; intro a S
                          refine l_nil ?_
                          refine e_then ?_
                          refine wp_ret ?_
                          refine e_in_ret ?_
                          refine e_then_ret ?_
                          -- B {'rk': 'empty'} odd=True ok=False pos=((p + j) + 1) tests=c5, c7, c9, c12, c15, c79, c84, c87, c90, c93, c95
                          exact r_doorR S (clo_ wb _ _ _ gx gt tx (((p + j) + 1)) D true H (by omega)) (invokes Tryd.func22 rfl rfl) (fun w' hH => res_t1 rfl rfl) (fun w' hH => .inl ⟨(hB.trans (rp.B_empty (by clear S H hB; grind) (by clear S H hB; grind) (by clear S H hB; grind))), rfl, ((p + j) + 1), hH.tail⟩)
                        · skip
                          have c95 := bc95
                          have c95 := ne_of_beq_false c95
                          refine wp_seq ?_
                          refine c_region ?_
                          refine l_pure S (p_move rfl) rfl rfl rfl ?_; clear S a; intro a S
                          refine l_pure S (p_move rfl) rfl rfl rfl ?_; clear S a; intro a S
                          refine l_on S rfl rfl rfl rfl (not_eq_true_ bc87) ?_
                          refine l_pure S (p_move rfl) rfl rfl rfl ?_; clear S a; intro a S
                          refine l_on S rfl rfl rfl rfl (not_eq_true_ bc87) ?_
                          refine l_pure S (p_eql rfl rfl) rfl rfl rfl ?_; clear S a; intro a S
                          refine l_pure S (p_pick_f rfl (not_eq_true_ bc87) rfl) rfl rfl rfl ?_; clear S a; intro a S
                          refine l_pure S (p_move rfl) rfl rfl rfl ?_; clear S a; intro a S
                          refine l_split (S.of 155 rfl) (fun bc98 => ?_) (fun bc98 => ?_)
                          · skip
                            have c98 := bc98
                            have c98 := eq_of_beq c98
                            refine l_on S rfl rfl rfl rfl bc98 ?_
                            refine l_pure S (p_move rfl) rfl rfl rfl ?_; clear S a; intro a S
                            refine l_on S rfl rfl rfl rfl bc98 ?_
                            refine l_pure S (p_index rfl rfl (fun w => ix_string Tryd.underlying9 (by omega) (by omega))) rfl rfl rfl ?_; clear S a; intro a S
                            refine l_on S rfl rfl rfl rfl bc98 ?_
                            refine l_pure S (p_eql rfl rfl) rfl rfl rfl ?_; clear S a; intro a S
                            refine l_pure S (p_pick_t rfl bc98 rfl) rfl rfl rfl ?_; clear S a; intro a S
                            refine l_pure S (p_assign rfl) rfl rfl rfl ?_; clear S a; intro a S
                            refine l_nil ?_
                            refine e_then ?_
                            refine c_cond S rfl (fun bc100 => ?_) (fun bc100 => ?_)
                            · skip
                              have c100 := bc100
                              have c100 := eq_of_beq c100
                              refine wp_seq ?_
                              refine c_region ?_
                              refine l_pure S (p_assign rfl) rfl rfl rfl ?_; clear S a; intro a S
                              refine l_nil ?_
                              refine e_then ?_
                              refine wp_ret ?_
                              refine e_in_ret ?_
                              refine e_then_ret ?_
                              -- B {'rk': 'q'} odd=False ok=True pos=((p + j) + 1) tests=c5, c7, c9, c12, c15, c79, c84, c87, c90, c93, c95, c98, c100
                              exact r_doorR S (clo_ wb _ _ _ gx gt tx (((p + j) + 1)) D false H (by omega)) (invokes Tryd.func22 rfl rfl) (fun w' hH => res_t1 rfl rfl) (fun w' hH => .inr (.inr ⟨(j + 1), (hB.trans (rp.B_q (by clear S H hB; grind) (by clear S H hB; grind) (by clear S H hB; grind) (by clear S H hB; grind))), rfl, by omega, hH.tail⟩))
                            · skip
                              have c100 := bc100
                              have c100 := ne_of_beq_false c100
                              refine wp_skip ?_
                              refine e_in 2 ?_
                              refine e_then ?_
                              exact ⟨S.only ⟨rfl, rfl, rfl, rfl, rfl, rfl, trivial⟩, H, (by clear S H hB; unfold rp.NT; grind)⟩
                          · skip
                            have c98 := bc98
                            have c98 := ne_of_beq_false c98
                            refine l_off S rfl rfl rfl rfl bc98 rfl rfl ?_; clear S a; intro a S
                            refine l_off S rfl rfl rfl rfl bc98 rfl rfl ?_; clear S a; intro a S
                            refine l_off S rfl rfl rfl rfl bc98 rfl rfl ?_; clear S a; intro a S
                            refine l_pure S (p_pick_f rfl bc98 rfl) rfl rfl rfl ?_; clear S a; intro a S
                            refine l_pure S (p_assign rfl) rfl rfl rfl ?_; clear S a; intro a S
                            refine l_nil ?_
                            refine e_then ?_
                            refine c_cond (b := false) S rfl (fun h => by cases h) (fun _ => ?_)
                            refine wp_skip ?_
                            refine e_in 2 ?_
                            refine e_then ?_
                            exact ⟨S.only ⟨rfl, rfl, rfl, rfl, rfl, rfl, trivial⟩, H, (by clear S H hB; unfold rp.NT; grind)⟩
                      · skip
                        have c93 := bc93
                        have c93 := ne_of_beq_false c93
                        refine l_off S rfl rfl rfl rfl bc93 rfl rfl ?_; clear S a; intro a S
                        refine l_off S rfl rfl rfl rfl bc93 rfl rfl ?_; clear S a; intro a S
                        refine l_offU S rfl rfl rfl rfl rfl rfl ?_; clear S a; intro a S
                        refine l_offU S rfl rfl rfl rfl rfl rfl ?_; clear S a; intro a S
                        refine l_off S rfl rfl rfl rfl bc93 rfl rfl ?_; clear S a; intro a S
                        refine l_pure S (p_pick_f rfl bc93 rfl) rfl rfl rfl ?_; clear S a; intro a S
                        refine l_pure S (p_assign rfl) rfl rfl rfl ?_; clear S a; intro a S
                        refine l_nil ?_
                        refine e_then ?_
                        refine c_cond (b := false) S rfl (fun h => by cases h) (fun _ => ?_)
                        refine wp_seq ?_
                        refine c_region ?_
                        refine l_pure S (p_move rfl) rfl rfl rfl ?_; clear S a; intro a S
                        refine l_pure S (p_move rfl) rfl rfl rfl ?_; clear S a; intro a S
                        refine l_on S rfl rfl rfl rfl (not_eq_true_ bc87) ?_
                        refine l_pure S (p_move rfl) rfl rfl rfl ?_; clear S a; intro a S
                        refine l_on S rfl rfl rfl rfl (not_eq_true_ bc87) ?_
                        refine l_pure S (p_eql rfl rfl) rfl rfl rfl ?_; clear S a; intro a S
                        refine l_pure S (p_pick_f rfl (not_eq_true_ bc87) rfl) rfl rfl rfl ?_; clear S a; intro a S
                        refine l_pure S (p_move rfl) rfl rfl rfl ?_; clear S a; intro a S
                        refine l_split (S.of 155 rfl) (fun bc107 => ?_) (fun bc107 => ?_)
                        · skip
                          have c107 := bc107
                          have c107 := eq_of_beq c107
                          refine l_on S rfl rfl rfl rfl bc107 ?_
                          refine l_pure S (p_move rfl) rfl rfl rfl ?_; clear S a; intro a S
                          refine l_on S rfl rfl rfl rfl bc107 ?_
                          refine l_pure S (p_index rfl rfl (fun w => ix_string Tryd.underlying9 (by omega) (by omega))) rfl rfl rfl ?_; clear S a; intro a S
                          refine l_on S rfl rfl rfl rfl bc107 ?_
                          refine l_pure S (p_eql rfl rfl) rfl rfl rfl ?_; clear S a; intro a S
                          refine l_pure S (p_pick_t rfl bc107 rfl) rfl rfl rfl ?_; clear S a; intro a S
                          refine l_pure S (p_assign rfl) rfl rfl rfl ?_; clear S a; intro a S
                          refine l_nil ?_
                          refine e_then ?_
                          refine c_cond S rfl (fun bc109 => ?_) (fun bc109 => ?_)
                          · skip
                            have c109 := bc109
                            have c109 := eq_of_beq c109
                            refine wp_seq ?_
                            refine c_region ?_
                            refine l_pure S (p_assign rfl) rfl rfl rfl ?_; clear S a; intro a S
                            refine l_nil ?_
                            refine e_then ?_
                            refine wp_ret ?_
                            refine e_in_ret ?_
                            refine e_then_ret ?_
                            -- B {'rk': 'q'} odd=False ok=True pos=((p + j) + 1) tests=c5, c7, c9, c12, c15, c79, c84, c87, c90, c93, c107, c109
                            exact r_doorR S (clo_ wb _ _ _ gx gt tx (((p + j) + 1)) D false H (by omega)) (invokes Tryd.func22 rfl rfl) (fun w' hH => res_t1 rfl rfl) (fun w' hH => .inr (.inr ⟨(j + 1), (hB.trans (rp.B_q (by clear S H hB; grind) (by clear S H hB; grind) (by clear S H hB; grind) (by clear S H hB; grind))), rfl, by omega, hH.tail⟩))
                          · skip
                            have c109 := bc109
                            have c109 := ne_of_beq_false c109
                            refine wp_skip ?_
                            refine e_in 2 ?_
                            refine e_then ?_
                            exact ⟨S.only ⟨rfl, rfl, rfl, rfl, rfl, rfl, trivial⟩, H, (by clear S H hB; unfold rp.NT; grind)⟩
                        · skip
                          have c107 := bc107
                          have c107 := ne_of_beq_false c107
                          refine l_off S rfl rfl rfl rfl bc107 rfl rfl ?_; clear S a; intro a S
                          refine l_off S rfl rfl rfl rfl bc107 rfl rfl ?_; clear S a; intro a S
                          refine l_off S rfl rfl rfl rfl bc107 rfl rfl ?_; clear S a; intro a S
                          refine l_pure S (p_pick_f rfl bc107 rfl) rfl rfl rfl ?_; clear S a; intro a S
                          refine l_pure S (p_assign rfl) rfl rfl rfl ?_; clear S a; intro a S
                          refine l_nil ?_
                          refine e_then ?_
                          refine c_cond (b := false) S rfl (fun h => by cases h) (fun _ => ?_)
                          refine wp_skip ?_
                          refine e_in 2 ?_
                          refine e_then ?_
                          exact ⟨S.only ⟨rfl, rfl, rfl, rfl, rfl, rfl, trivial⟩, H, (by clear S H hB; unfold rp.NT; grind)⟩
                  · skip
                    have c87 := bc87
                    replace c87 := not_eq_false_ c87
                    
                    refine l_off S rfl rfl rfl rfl bc87 rfl rfl ?_; clear S a; intro a S
                    refine l_off S rfl rfl rfl rfl bc87 rfl rfl ?_; clear S a; intro a S
                    refine l_off S rfl rfl rfl rfl bc87 rfl rfl ?_; clear S a; intro a S
                    refine l_pure S (p_pick_f rfl bc87 rfl) rfl rfl rfl ?_; clear S a; intro a S
                    refine l_pure S (p_assign rfl) rfl rfl rfl ?_; clear S a; intro a S
                    refine l_nil ?_
                    refine e_then ?_
                    refine c_cond (b := false) S rfl (fun h => by cases h) (fun _ => ?_)
                    refine wp_seq ?_
                    refine c_region ?_
                    refine l_pure S (p_move rfl) rfl rfl rfl ?_; clear S a; intro a S
                    refine l_pure S (p_lens Tryd.underlying9 rfl) rfl rfl rfl ?_; clear S a; intro a S
                    refine l_pure S (p_eql rfl rfl) rfl rfl rfl ?_; clear S a; intro a S
                    refine l_pure S (p_move rfl) rfl rfl rfl ?_; clear S a; intro a S
                    refine l_split (S.of 139 rfl) (fun bc116 => ?_) (fun bc116 => ?_)
                    · skip
                      have c116 := bc116
                      have c116 := eq_of_beq c116
                      refine l_on S rfl rfl rfl rfl bc116 ?_
                      refine l_pure S (p_move rfl) rfl rfl rfl ?_; clear S a; intro a S
                      refine l_on S rfl rfl rfl rfl bc116 ?_
                      refine l_pure S (p_move rfl) rfl rfl rfl ?_; clear S a; intro a S
                      refine l_off S rfl rfl rfl rfl (not_eq_false_ bc87) rfl rfl ?_; clear S a; intro a S
                      refine l_off S rfl rfl rfl rfl (not_eq_false_ bc87) rfl rfl ?_; clear S a; intro a S
                      refine l_on S rfl rfl rfl rfl bc116 ?_
                      refine l_pure S (p_pick_t rfl (not_eq_false_ bc87) rfl) rfl rfl rfl ?_; clear S a; intro a S
                      refine l_pure S (p_pick_t rfl bc116 rfl) rfl rfl rfl ?_; clear S a; intro a S
                      refine l_pure S (p_assign rfl) rfl rfl rfl ?_; clear S a; intro a S
                      refine l_nil ?_
                      refine e_then ?_
                      refine c_cond (b := true) S rfl (fun _ => ?_) (fun h => by cases h)
                      refine wp_seq ?_
                      refine c_region ?_
                      refine l_read S H (r_load rfl List.mem_cons_self rfl (fun w hc => ld1 ag27 hc)) rfl rfl rfl ?_; clear S a; intro a S
                      refine l_pure S (p_nilCheck rfl) rfl rfl rfl ?_; clear S a; intro a S
                      refine l_pure S (p_fieldAddr rfl (fun w => fa31_2 w _ _)) rfl rfl rfl ?_; clear S a; intro a S
                      refine l_store S H rfl rfl rfl (.there .here) (by first | decide | simp [Value.cells]) (fun w u hc hz => st1 sz4 rfl hc hz) rfl rfl ?_; clear S a H; intro w a H S
                      refine l_nil ?_
                      refine e_then ?_
                      refine wp_seq ?_
                      refine c_region ?_
                      refine l_pure S (p_assign rfl) rfl rfl rfl ?_; clear S a; intro a S
                      refine l_nil ?_
                      refine e_then ?_
                      refine wp_ret ?_
                      refine e_in_ret ?_
                      refine e_then_ret ?_
                      -- B {'rk': 'empty'} odd=True ok=False pos=((p + j) + 1) tests=c5, c7, c9, c12, c15, c79, c84, c87, c116
                      exact r_doorR S (clo_ wb _ _ _ gx gt tx (((p + j) + 1)) D true H (by omega)) (invokes Tryd.func22 rfl rfl) (fun w' hH => res_t1 rfl rfl) (fun w' hH => .inl ⟨(hB.trans (rp.B_empty (by clear S H hB; grind) (by clear S H hB; grind) (by clear S H hB; grind))), rfl, ((p + j) + 1), hH.tail⟩)
                    · skip
                      have c116 := bc116
                      have c116 := ne_of_beq_false c116
                      refine l_off S rfl rfl rfl rfl bc116 rfl rfl ?_; clear S a; intro a S
                      refine l_off S rfl rfl rfl rfl bc116 rfl rfl ?_; clear S a; intro a S
                      refine l_offU S rfl rfl rfl rfl rfl rfl ?_; clear S a; intro a S
                      refine l_offU S rfl rfl rfl rfl rfl rfl ?_; clear S a; intro a S
                      refine l_off S rfl rfl rfl rfl bc116 rfl rfl ?_; clear S a; intro a S
                      refine l_pure S (p_pick_f rfl bc116 rfl) rfl rfl rfl ?_; clear S a; intro a S
                      refine l_pure S (p_assign rfl) rfl rfl rfl ?_; clear S a; intro a S
                      refine l_nil ?_
                      refine e_then ?_
                      refine c_cond (b := false) S rfl (fun h => by cases h) (fun _ => ?_)
                      refine wp_seq ?_
                      refine c_region ?_
                      refine l_pure S (p_move rfl) rfl rfl rfl ?_; clear S a; intro a S
                      refine l_pure S (p_move rfl) rfl rfl rfl ?_; clear S a; intro a S
                      refine l_off S rfl rfl rfl rfl (not_eq_false_ bc87) rfl rfl ?_; clear S a; intro a S
                      refine l_off S rfl rfl rfl rfl (not_eq_false_ bc87) rfl rfl ?_; clear S a; intro a S
                      refine l_pure S (p_pick_t rfl (not_eq_false_ bc87) rfl) rfl rfl rfl ?_; clear S a; intro a S
                      refine l_pure S (p_move rfl) rfl rfl rfl ?_; clear S a; intro a S
                      refine l_on S rfl rfl rfl rfl rfl ?_
                      refine l_pure S (p_move rfl) rfl rfl rfl ?_; clear S a; intro a S
                      refine l_on S rfl rfl rfl rfl rfl ?_
                      refine l_pure S (p_index rfl rfl (fun w => ix_string Tryd.underlying9 (by omega) (by omega))) rfl rfl rfl ?_; clear S a; intro a S
                      refine l_on S rfl rfl rfl rfl rfl ?_
                      refine l_pure S (p_eql rfl rfl) rfl rfl rfl ?_; clear S a; intro a S
                      refine l_pure S (p_pick_t rfl rfl rfl) rfl rfl rfl ?_; clear S a; intro a S
                      refine l_pure S (p_assign rfl) rfl rfl rfl ?_; clear S a; intro a S
                      refine l_nil ?_
                      refine e_then ?_
                      refine c_cond S rfl (fun bc124 => ?_) (fun bc124 => ?_)
                      · skip
                        have c124 := bc124
                        have c124 := eq_of_beq c124
                        refine wp_seq ?_
                        refine c_region ?_
                        refine l_pure S (p_assign rfl) rfl rfl rfl ?_; clear S a; intro a S
                        refine l_nil ?_
                        refine e_then ?_
                        refine wp_ret ?_
                        refine e_in_ret ?_
                        refine e_then_ret ?_
                        -- B {'rk': 'q'} odd=False ok=True pos=((p + j) + 1) tests=c5, c7, c9, c12, c15, c79, c84, c87, c116, c124
                        exact r_doorR S (clo_ wb _ _ _ gx gt tx (((p + j) + 1)) D false H (by omega)) (invokes Tryd.func22 rfl rfl) (fun w' hH => res_t1 rfl rfl) (fun w' hH => .inr (.inr ⟨(j + 1), (hB.trans (rp.B_q (by clear S H hB; grind) (by clear S H hB; grind) (by clear S H hB; grind) (by clear S H hB; grind))), rfl, by omega, hH.tail⟩))
                      · skip
                        have c124 := bc124
                        have c124 := ne_of_beq_false c124
                        refine wp_skip ?_
                        refine e_in 2 ?_
                        refine e_then ?_
                        exact ⟨S.only ⟨rfl, rfl, rfl, rfl, rfl, rfl, trivial⟩, H, (by clear S H hB; unfold rp.NT; grind)⟩
  · skip
    have c5 := bc5
    have c5 := of_decide_eq_false c5
    refine d_off (i := 11) #[true, true, true, true, true, true, true, true, true, true, true, true, false, false, false, false, false, false, false, false, false, false] S rfl (wanted_off S rfl rfl rfl rfl bc5) rfl rfl (by kernel_rfl) (hq_d (fun t => by simp [results, Tryd.results9, Array.getElem?_setIfInBounds])) ?_; clear S a; intro a S
    refine d_off (i := 12) #[true, true, true, true, true, true, true, true, true, true, true, true, true, false, false, false, false, false, false, false, false, false] S rfl (wanted_off S rfl rfl rfl rfl bc5) rfl rfl (by kernel_rfl) (hq_d (fun t => by simp [results, Tryd.results9, Array.getElem?_setIfInBounds])) ?_; clear S a; intro a S
    refine d_off (i := 13) #[true, true, true, true, true, true, true, true, true, true, true, true, true, true, false, false, false, false, false, false, false, false] S rfl (wanted_off S rfl rfl rfl rfl bc5) rfl rfl (by kernel_rfl) (hq_d (fun t => by simp [results, Tryd.results9, Array.getElem?_setIfInBounds])) ?_; clear S a; intro a S
    refine d_off (i := 14) #[true, true, true, true, true, true, true, true, true, true, true, true, true, true, true, false, false, false, false, false, false, false] S rfl (wanted_off S rfl rfl rfl rfl bc5) rfl rfl (by kernel_rfl) (hq_d (fun t => by simp [results, Tryd.results9, Array.getElem?_setIfInBounds])) ?_; clear S a; intro a S
    refine d_off (i := 15) #[true, true, true, true, true, true, true, true, true, true, true, true, true, true, true, true, false, false, false, false, false, false] S rfl (wanted_off S rfl rfl rfl rfl bc5) rfl rfl (by kernel_rfl) (hq_d (fun t => by simp [results, Tryd.results9, Array.getElem?_setIfInBounds])) ?_; clear S a; intro a S
    refine d_off (i := 16) #[true, true, true, true, true, true, true, true, true, true, true, true, true, true, true, true, true, false, false, false, false, false] S rfl (wanted_off S rfl rfl rfl rfl bc5) rfl rfl (by kernel_rfl) (hq_d (fun t => by simp [results, Tryd.results9, Array.getElem?_setIfInBounds])) ?_; clear S a; intro a S
    refine d_off (i := 17) #[true, true, true, true, true, true, true, true, true, true, true, true, true, true, true, true, true, true, false, false, false, false] S rfl (wanted_off S rfl rfl rfl rfl bc5) rfl rfl (by kernel_rfl) (hq_d (fun t => by simp [results, Tryd.results9, Array.getElem?_setIfInBounds])) ?_; clear S a; intro a S
    refine d_off (i := 18) #[true, true, true, true, true, true, true, true, true, true, true, true, true, true, true, true, true, true, true, false, false, false] S rfl (wanted_off S rfl rfl rfl rfl bc5) rfl rfl (by kernel_rfl) (hq_d (fun t => by simp [results, Tryd.results9, Array.getElem?_setIfInBounds])) ?_; clear S a; intro a S
    refine d_off (i := 19) #[true, true, true, true, true, true, true, true, true, true, true, true, true, true, true, true, true, true, true, true, false, false] S rfl (wanted_off S rfl rfl rfl rfl bc5) rfl rfl (by kernel_rfl) (hq_d (fun t => by simp [results, Tryd.results9, Array.getElem?_setIfInBounds])) ?_; clear S a; intro a S
    refine d_off (i := 20) #[true, true, true, true, true, true, true, true, true, true, true, true, true, true, true, true, true, true, true, true, true, false] S rfl (wanted_off S rfl rfl rfl rfl bc5) rfl rfl (by kernel_rfl) (hq_d (fun t => by simp [results, Tryd.results9, Array.getElem?_setIfInBounds])) ?_; clear S a; intro a S
    refine d_pure (i := 21) #[true, true, true, true, true, true, true, true, true, true, true, true, true, true, true, true, true, true, true, true, true, true] S rfl (p_pick_f rfl bc5 rfl) (wanted_none rfl) rfl rfl (by kernel_rfl) (hq_d (fun t => by simp [results, Tryd.results9, Array.getElem?_setIfInBounds])) ?_; clear S a; intro a S
    refine d_done (by kernel_rfl) ?_
    refine e_then ?_
    refine c_cond (b := false) S rfl (fun h => by cases h) (fun _ => ?_)
    refine wp_exit ?_
    refine e_then_exit ?_
    refine e_then_exit ?_
    refine e_in_exit ?_
    refine e_then ?_
    refine wp_seq ?_
    refine wp_seq ?_
    refine d_start (id := 9) [] 10 #[false, false, false, false, false, false, false, false, false, false] H rfl rfl rfl (fun w H => ?_)
    refine d_read (i := 0) #[true, false, false, false, false, false, false, false, false, false] S H rfl (r_load rfl List.mem_cons_self rfl (fun w hc => ld1 ag27 hc)) (wanted_none rfl) rfl rfl (by kernel_rfl) (hq_d (fun t => by simp [results, Tryd.results9, Array.getElem?_setIfInBounds])) ?_; clear S a; intro a S
    refine d_pure (i := 1) #[true, true, false, false, false, false, false, false, false, false] S rfl (p_nilCheck rfl) (wanted_none rfl) rfl rfl (by kernel_rfl) (hq_d (fun t => by simp [results, Tryd.results9, Array.getElem?_setIfInBounds])) ?_; clear S a; intro a S
    refine d_pure (i := 2) #[true, true, true, false, false, false, false, false, false, false] S rfl (p_fieldAddr rfl (fun w => fa31_1 w _ _)) (wanted_none rfl) rfl rfl (by kernel_rfl) (hq_d (fun t => by simp [results, Tryd.results9, Array.getElem?_setIfInBounds])) ?_; clear S a; intro a S
    refine d_read (i := 3) #[true, true, true, true, false, false, false, false, false, false] S H rfl (r_load rfl (List.mem_cons_of_mem _ List.mem_cons_self) rfl (fun w hc => ld1 ag3 hc)) (wanted_none rfl) rfl rfl (by kernel_rfl) (hq_d (fun t => by simp [results, Tryd.results9, Array.getElem?_setIfInBounds])) ?_; clear S a; intro a S
    refine d_read (i := 4) #[true, true, true, true, true, false, false, false, false, false] S H rfl (r_load rfl List.mem_cons_self rfl (fun w hc => ld1 ag27 hc)) (wanted_none rfl) rfl rfl (by kernel_rfl) (hq_d (fun t => by simp [results, Tryd.results9, Array.getElem?_setIfInBounds])) ?_; clear S a; intro a S
    refine d_pure (i := 5) #[true, true, true, true, true, true, false, false, false, false] S rfl (p_nilCheck rfl) (wanted_none rfl) rfl rfl (by kernel_rfl) (hq_d (fun t => by simp [results, Tryd.results9, Array.getElem?_setIfInBounds])) ?_; clear S a; intro a S
    refine d_pure (i := 6) #[true, true, true, true, true, true, true, false, false, false] S rfl (p_fieldAddr rfl (fun w => fa31_0 w _ _)) (wanted_none rfl) rfl rfl (by kernel_rfl) (hq_d (fun t => by simp [results, Tryd.results9, Array.getElem?_setIfInBounds])) ?_; clear S a; intro a S
    refine d_read (i := 7) #[true, true, true, true, true, true, true, true, false, false] S H rfl (r_load rfl (List.mem_cons_of_mem _ List.mem_cons_self) rfl (fun w hc => ld1 ag9 hc)) (wanted_none rfl) rfl rfl (by kernel_rfl) (hq_d (fun t => by simp [results, Tryd.results9, Array.getElem?_setIfInBounds])) ?_; clear S a; intro a S
    refine d_pure (i := 8) #[true, true, true, true, true, true, true, true, true, false] S rfl (p_lens Tryd.underlying9 rfl) (wanted_none rfl) rfl rfl (by kernel_rfl) (hq_d (fun t => by simp [results, Tryd.results9, Array.getElem?_setIfInBounds])) ?_; clear S a; intro a S
    refine d_pure (i := 9) #[true, true, true, true, true, true, true, true, true, true] S rfl (p_eql rfl rfl) (wanted_none rfl) rfl rfl (by kernel_rfl) (hq_d (fun t => by simp [results, Tryd.results9, Array.getElem?_setIfInBounds])) ?_; clear S a; intro a S
    refine d_done (by kernel_rfl) ?_
    refine e_then ?_
    refine c_cond S rfl (fun bc129 => ?_) (fun bc129 => ?_)
    · skip
      have c129 := bc129
      have c129 := eq_of_beq c129
      have hfi : rp.fi ((ints tx).drop p) = none := rp.fi_none.2 (fun i hi => by rw [rp.drop_getD]; rw [List.length_drop] at hi; exact hq3 _ (by omega) (by omega))
      refine wp_seq ?_
      refine c_region ?_
      refine l_pure S (p_assign rfl) rfl rfl rfl ?_; clear S a; intro a S
      refine l_nil ?_
      refine e_then ?_
      refine wp_ret ?_
      refine e_then_ret ?_
      -- raw_none {} odd=False ok=False pos=q tests=c5, c129
      exact r_doorR S (clo_ wb _ _ _ gx gt tx (q) D false H (by omega)) (invokes Tryd.func22 rfl rfl) (fun w' hH => res_t1 rfl rfl) (fun w' hH => .inr (.inl ⟨rp.raw_none hfi, rfl, q, hH.tail⟩))
    · skip
      have c129 := bc129
      have c129 := ne_of_beq_false c129
      obtain ⟨j, rfl⟩ : ∃ j, q = p + j := ⟨q - p, by omega⟩
      have hfi : rp.fi ((ints tx).drop p) = some j := rp.fi_some.2 ⟨by rw [List.length_drop]; omega, by rw [rp.drop_getD]; omega, fun i hi => by rw [rp.drop_getD]; exact hq3 _ (by omega) (by omega)⟩
      refine wp_skip ?_
      refine e_then ?_
      refine wp_seq ?_
      refine c_region ?_
      refine l_read S H (r_load rfl List.mem_cons_self rfl (fun w hc => ld1 ag27 hc)) rfl rfl rfl ?_; clear S a; intro a S
      refine l_pure S (p_nilCheck rfl) rfl rfl rfl ?_; clear S a; intro a S
      refine l_pure S (p_fieldAddr rfl (fun w => fa31_1 w _ _)) rfl rfl rfl ?_; clear S a; intro a S
      refine l_read S H (r_load rfl (List.mem_cons_of_mem _ List.mem_cons_self) rfl (fun w hc => ld1 ag3 hc)) rfl rfl rfl ?_; clear S a; intro a S
      refine l_pure S (p_add rfl rfl (nat_add (x := (p + j)) (y := 1) (by omega))) rfl rfl rfl ?_; clear S a; intro a S
      refine l_pure S (p_nilCheck rfl) rfl rfl rfl ?_; clear S a; intro a S
      refine l_pure S (p_fieldAddr rfl (fun w => fa31_1 w _ _)) rfl rfl rfl ?_; clear S a; intro a S
      refine l_store S H rfl rfl rfl (.there .here) (by first | decide | simp [Value.cells]) (fun w u hc hz => st1 sz3 rfl hc hz) rfl rfl ?_; clear S a H; intro w a H S
      refine l_nil ?_
      refine e_then ?_
      refine wp_seq ?_
      refine wp_seq ?_
      refine c_region ?_
      refine l_read S H (r_load rfl List.mem_cons_self rfl (fun w hc => ld1 ag27 hc)) rfl rfl rfl ?_; clear S a; intro a S
      refine l_pure S (p_nilCheck rfl) rfl rfl rfl ?_; clear S a; intro a S
      refine l_pure S (p_fieldAddr rfl (fun w => fa31_1 w _ _)) rfl rfl rfl ?_; clear S a; intro a S
      refine l_read S H (r_load rfl (List.mem_cons_of_mem _ List.mem_cons_self) rfl (fun w hc => ld1 ag3 hc)) rfl rfl rfl ?_; clear S a; intro a S
      refine l_pure S (p_move rfl) rfl rfl rfl ?_; clear S a; intro a S
      refine l_pure S (p_sub rfl rfl (nat_sub (x := ((p + j) + 1)) (y := p) (by omega) (by omega))) rfl rfl rfl ?_; clear S a; intro a S
      refine l_pure S (p_lss rfl rfl) rfl rfl rfl ?_; clear S a; intro a S
      refine l_nil ?_
      refine e_then ?_
      refine c_cond S rfl (fun bc132 => ?_) (fun bc132 => ?_)
      · skip
        have c132 := bc132
        have c132 := of_decide_eq_true c132
        refine wp_seq ?_
        refine c_region ?_
        refine l_pure S (p_assign rfl) rfl rfl rfl ?_; clear S a; intro a S
        refine l_nil ?_
        refine e_then ?_
        refine wp_ret ?_
        refine e_then_ret ?_
        -- raw_short {} odd=False ok=False pos=((p + j) + 1) tests=c5, c129, c132
        exact r_doorR S (clo_ wb _ _ _ gx gt tx (((p + j) + 1)) D false H (by omega)) (invokes Tryd.func22 rfl rfl) (fun w' hH => res_t1 rfl rfl) (fun w' hH => .inr (.inl ⟨rp.raw_short hfi (by omega), rfl, ((p + j) + 1), hH.tail⟩))
      · skip
        have c132 := bc132
        have c132 := of_decide_eq_false c132
        have hj : 2 ≤ j := by omega
        have hb1 := rp.bti tx p
        have hb2 := rp.bti tx (p + j + 1 - 2)
        have hYl := List.length_drop (i := p) (l := ints tx)
        have e0 := rp.drop_getD (ints tx) p 0
        have e1 := rp.drop_getD (ints tx) p (j - 1)
        rw [show p + (j - 1) = p + j + 1 - 2 by omega] at e1
        rw [Nat.add_zero] at e0
        refine wp_skip ?_
        refine e_then ?_
        refine wp_seq ?_
        refine d_start (id := 14) [] 20 #[false, false, false, false, false, false, false, false, false, false, false, false, false, false, false, false, false, false, false, false] H rfl rfl rfl (fun w H => ?_)
        refine d_read (i := 0) #[true, false, false, false, false, false, false, false, false, false, false, false, false, false, false, false, false, false, false, false] S H rfl (r_load rfl List.mem_cons_self rfl (fun w hc => ld1 ag27 hc)) (wanted_none rfl) rfl rfl (by kernel_rfl) (hq_d (fun t => by simp [results, Tryd.results9, Array.getElem?_setIfInBounds])) ?_; clear S a; intro a S
        refine d_pure (i := 1) #[true, true, false, false, false, false, false, false, false, false, false, false, false, false, false, false, false, false, false, false] S rfl (p_nilCheck rfl) (wanted_none rfl) rfl rfl (by kernel_rfl) (hq_d (fun t => by simp [results, Tryd.results9, Array.getElem?_setIfInBounds])) ?_; clear S a; intro a S
        refine d_pure (i := 2) #[true, true, true, false, false, false, false, false, false, false, false, false, false, false, false, false, false, false, false, false] S rfl (p_fieldAddr rfl (fun w => fa31_0 w _ _)) (wanted_none rfl) rfl rfl (by kernel_rfl) (hq_d (fun t => by simp [results, Tryd.results9, Array.getElem?_setIfInBounds])) ?_; clear S a; intro a S
        refine d_read (i := 3) #[true, true, true, true, false, false, false, false, false, false, false, false, false, false, false, false, false, false, false, false] S H rfl (r_load rfl (List.mem_cons_of_mem _ List.mem_cons_self) rfl (fun w hc => ld1 ag9 hc)) (wanted_none rfl) rfl rfl (by kernel_rfl) (hq_d (fun t => by simp [results, Tryd.results9, Array.getElem?_setIfInBounds])) ?_; clear S a; intro a S
        refine d_pure (i := 4) #[true, true, true, true, true, false, false, false, false, false, false, false, false, false, false, false, false, false, false, false] S rfl (p_move rfl) (wanted_none rfl) rfl rfl (by kernel_rfl) (hq_d (fun t => by simp [results, Tryd.results9, Array.getElem?_setIfInBounds])) ?_; clear S a; intro a S
        refine d_pure (i := 5) #[true, true, true, true, true, true, false, false, false, false, false, false, false, false, false, false, false, false, false, false] S rfl (p_index rfl rfl (fun w => ix_string Tryd.underlying9 (by omega) (by omega))) (wanted_none rfl) rfl rfl (by kernel_rfl) (hq_d (fun t => by simp [results, Tryd.results9, Array.getElem?_setIfInBounds])) ?_; clear S a; intro a S
        refine d_read (i := 6) #[true, true, true, true, true, true, true, false, false, false, false, false, false, false, false, false, false, false, false, false] S H rfl (r_load rfl List.mem_cons_self rfl (fun w hc => ld1 ag27 hc)) (wanted_none rfl) rfl rfl (by kernel_rfl) (hq_d (fun t => by simp [results, Tryd.results9, Array.getElem?_setIfInBounds])) ?_; clear S a; intro a S
        refine d_pure (i := 7) #[true, true, true, true, true, true, true, true, false, false, false, false, false, false, false, false, false, false, false, false] S rfl (p_nilCheck rfl) (wanted_none rfl) rfl rfl (by kernel_rfl) (hq_d (fun t => by simp [results, Tryd.results9, Array.getElem?_setIfInBounds])) ?_; clear S a; intro a S
        refine d_pure (i := 8) #[true, true, true, true, true, true, true, true, true, false, false, false, false, false, false, false, false, false, false, false] S rfl (p_fieldAddr rfl (fun w => fa31_0 w _ _)) (wanted_none rfl) rfl rfl (by kernel_rfl) (hq_d (fun t => by simp [results, Tryd.results9, Array.getElem?_setIfInBounds])) ?_; clear S a; intro a S
        refine d_read (i := 9) #[true, true, true, true, true, true, true, true, true, true, false, false, false, false, false, false, false, false, false, false] S H rfl (r_load rfl (List.mem_cons_of_mem _ List.mem_cons_self) rfl (fun w hc => ld1 ag9 hc)) (wanted_none rfl) rfl rfl (by kernel_rfl) (hq_d (fun t => by simp [results, Tryd.results9, Array.getElem?_setIfInBounds])) ?_; clear S a; intro a S
        refine d_pure (i := 10) #[true, true, true, true, true, true, true, true, true, true, true, false, false, false, false, false, false, false, false, false] S rfl (p_move rfl) (wanted_none rfl) rfl rfl (by kernel_rfl) (hq_d (fun t => by simp [results, Tryd.results9, Array.getElem?_setIfInBounds])) ?_; clear S a; intro a S
        refine d_pure (i := 11) #[true, true, true, true, true, true, true, true, true, true, true, true, false, false, false, false, false, false, false, false] S rfl (p_add rfl rfl (nat_add (x := p) (y := 1) (by omega))) (wanted_none rfl) rfl rfl (by kernel_rfl) (hq_d (fun t => by simp [results, Tryd.results9, Array.getElem?_setIfInBounds])) ?_; clear S a; intro a S
        refine d_read (i := 12) #[true, true, true, true, true, true, true, true, true, true, true, true, true, false, false, false, false, false, false, false] S H rfl (r_load rfl List.mem_cons_self rfl (fun w hc => ld1 ag27 hc)) (wanted_none rfl) rfl rfl (by kernel_rfl) (hq_d (fun t => by simp [results, Tryd.results9, Array.getElem?_setIfInBounds])) ?_; clear S a; intro a S
        refine d_pure (i := 13) #[true, true, true, true, true, true, true, true, true, true, true, true, true, true, false, false, false, false, false, false] S rfl (p_nilCheck rfl) (wanted_none rfl) rfl rfl (by kernel_rfl) (hq_d (fun t => by simp [results, Tryd.results9, Array.getElem?_setIfInBounds])) ?_; clear S a; intro a S
        refine d_pure (i := 14) #[true, true, true, true, true, true, true, true, true, true, true, true, true, true, true, false, false, false, false, false] S rfl (p_fieldAddr rfl (fun w => fa31_1 w _ _)) (wanted_none rfl) rfl rfl (by kernel_rfl) (hq_d (fun t => by simp [results, Tryd.results9, Array.getElem?_setIfInBounds])) ?_; clear S a; intro a S
        refine d_read (i := 15) #[true, true, true, true, true, true, true, true, true, true, true, true, true, true, true, true, false, false, false, false] S H rfl (r_load rfl (List.mem_cons_of_mem _ List.mem_cons_self) rfl (fun w hc => ld1 ag3 hc)) (wanted_none rfl) rfl rfl (by kernel_rfl) (hq_d (fun t => by simp [results, Tryd.results9, Array.getElem?_setIfInBounds])) ?_; clear S a; intro a S
        refine d_pure (i := 16) #[true, true, true, true, true, true, true, true, true, true, true, true, true, true, true, true, true, false, false, false] S rfl (p_sub rfl rfl (nat_sub (x := ((p + j) + 1)) (y := 2) (by omega) (by omega))) (wanted_none rfl) rfl rfl (by kernel_rfl) (hq_d (fun t => by simp [results, Tryd.results9, Array.getElem?_setIfInBounds])) ?_; clear S a; intro a S
        refine d_pure (i := 17) #[true, true, true, true, true, true, true, true, true, true, true, true, true, true, true, true, true, true, false, false] S rfl (p_slice rfl (o_some rfl) (o_some rfl) (fun _ _ => o_none) (fun w => sl_strN (m := p + 1) (m' := p + j + 1 - 2) Tryd.underlying9 rfl rfl (by omega) (by omega))) (wanted_none rfl) rfl rfl (by kernel_rfl) (hq_d (fun t => by simp [results, Tryd.results9, Array.getElem?_setIfInBounds])) ?_; clear S a; intro a S
        have hbb := rp.ints_body tx (p := p) hj
        have hbs : (tx.extract (p + 1) (p + j + 1 - 2)).size = j - 2 := by rw [ByteArray.size_extract]; omega
        generalize tx.extract (p + 1) (p + j + 1 - 2) = b at S hbb hbs
        refine d_pure (i := 18) #[true, true, true, true, true, true, true, true, true, true, true, true, true, true, true, true, true, true, true, false] S rfl (p_assign rfl) (wanted_none rfl) rfl rfl (by kernel_rfl) (hq_d (fun t => by simp [results, Tryd.results9, Array.getElem?_setIfInBounds])) ?_; clear S a; intro a S
        refine d_pure (i := 19) #[true, true, true, true, true, true, true, true, true, true, true, true, true, true, true, true, true, true, true, true] S rfl (p_assign rfl) (wanted_none rfl) rfl rfl (by kernel_rfl) (hq_d (fun t => by simp [results, Tryd.results9, Array.getElem?_setIfInBounds])) ?_; clear S a; intro a S
        refine d_done (by kernel_rfl) ?_
        refine e_then ?_
        refine wp_seq ?_
        refine wp_seq ?_
        refine d_start (id := 15) [] 11 #[false, false, false, false, false, false, false, false, false, false, false] H rfl rfl rfl (fun w H => ?_)
        refine d_read (i := 0) #[true, false, false, false, false, false, false, false, false, false, false] S H rfl (r_load rfl List.mem_cons_self rfl (fun w hc => ld1 ag27 hc)) (wanted_none rfl) rfl rfl (by kernel_rfl) (hq_d (fun t => by simp [results, Tryd.results9, Array.getElem?_setIfInBounds])) ?_; clear S a; intro a S
        refine d_pure (i := 1) #[true, true, false, false, false, false, false, false, false, false, false] S rfl (p_nilCheck rfl) (wanted_none rfl) rfl rfl (by kernel_rfl) (hq_d (fun t => by simp [results, Tryd.results9, Array.getElem?_setIfInBounds])) ?_; clear S a; intro a S
        refine d_pure (i := 2) #[true, true, true, false, false, false, false, false, false, false, false] S rfl (p_fieldAddr rfl (fun w => fa31_0 w _ _)) (wanted_none rfl) rfl rfl (by kernel_rfl) (hq_d (fun t => by simp [results, Tryd.results9, Array.getElem?_setIfInBounds])) ?_; clear S a; intro a S
        refine d_read (i := 3) #[true, true, true, true, false, false, false, false, false, false, false] S H rfl (r_load rfl (List.mem_cons_of_mem _ List.mem_cons_self) rfl (fun w hc => ld1 ag9 hc)) (wanted_none rfl) rfl rfl (by kernel_rfl) (hq_d (fun t => by simp [results, Tryd.results9, Array.getElem?_setIfInBounds])) ?_; clear S a; intro a S
        refine d_read (i := 4) #[true, true, true, true, true, false, false, false, false, false, false] S H rfl (r_load rfl List.mem_cons_self rfl (fun w hc => ld1 ag27 hc)) (wanted_none rfl) rfl rfl (by kernel_rfl) (hq_d (fun t => by simp [results, Tryd.results9, Array.getElem?_setIfInBounds])) ?_; clear S a; intro a S
        refine d_pure (i := 5) #[true, true, true, true, true, true, false, false, false, false, false] S rfl (p_nilCheck rfl) (wanted_none rfl) rfl rfl (by kernel_rfl) (hq_d (fun t => by simp [results, Tryd.results9, Array.getElem?_setIfInBounds])) ?_; clear S a; intro a S
        refine d_pure (i := 6) #[true, true, true, true, true, true, true, false, false, false, false] S rfl (p_fieldAddr rfl (fun w => fa31_1 w _ _)) (wanted_none rfl) rfl rfl (by kernel_rfl) (hq_d (fun t => by simp [results, Tryd.results9, Array.getElem?_setIfInBounds])) ?_; clear S a; intro a S
        refine d_read (i := 7) #[true, true, true, true, true, true, true, true, false, false, false] S H rfl (r_load rfl (List.mem_cons_of_mem _ List.mem_cons_self) rfl (fun w hc => ld1 ag3 hc)) (wanted_none rfl) rfl rfl (by kernel_rfl) (hq_d (fun t => by simp [results, Tryd.results9, Array.getElem?_setIfInBounds])) ?_; clear S a; intro a S
        refine d_pure (i := 8) #[true, true, true, true, true, true, true, true, true, false, false] S rfl (p_sub rfl rfl (nat_sub (x := ((p + j) + 1)) (y := 2) (by omega) (by omega))) (wanted_none rfl) rfl rfl (by kernel_rfl) (hq_d (fun t => by simp [results, Tryd.results9, Array.getElem?_setIfInBounds])) ?_; clear S a; intro a S
        refine d_pure (i := 9) #[true, true, true, true, true, true, true, true, true, true, false] S rfl (p_index rfl rfl (fun w => ix_string Tryd.underlying9 (by omega) (by omega))) (wanted_none rfl) rfl rfl (by kernel_rfl) (hq_d (fun t => by simp [results, Tryd.results9, Array.getElem?_setIfInBounds])) ?_; clear S a; intro a S
        refine d_pure (i := 10) #[true, true, true, true, true, true, true, true, true, true, true] S rfl (p_neq rfl rfl) (wanted_none rfl) rfl rfl (by kernel_rfl) (hq_d (fun t => by simp [results, Tryd.results9, Array.getElem?_setIfInBounds])) ?_; clear S a; intro a S
        refine d_done (by kernel_rfl) ?_
        refine e_then ?_
        refine c_cond S rfl (fun bc135 => ?_) (fun bc135 => ?_)
        · skip
          have c135 := bc135
          have c135 := bne_iff_ne.1 c135
          refine wp_seq ?_
          refine c_region ?_
          refine l_read S H (r_load rfl List.mem_cons_self rfl (fun w hc => ld1 ag27 hc)) rfl rfl rfl ?_; clear S a; intro a S
          refine l_pure S (p_nilCheck rfl) rfl rfl rfl ?_; clear S a; intro a S
          refine l_pure S (p_fieldAddr rfl (fun w => fa31_2 w _ _)) rfl rfl rfl ?_; clear S a; intro a S
          refine l_store S H rfl rfl rfl (.there .here) (by first | decide | simp [Value.cells]) (fun w u hc hz => st1 sz4 rfl hc hz) rfl rfl ?_; clear S a H; intro w a H S
          refine l_nil ?_
          refine e_then ?_
          refine wp_seq ?_
          refine c_region ?_
          refine l_pure S (p_assign rfl) rfl rfl rfl ?_; clear S a; intro a S
          refine l_nil ?_
          refine e_then ?_
          refine wp_ret ?_
          refine e_then_ret ?_
          -- raw_cr {} odd=True ok=False pos=((p + j) + 1) tests=c5, c129, c132, c135
          exact r_doorR S (clo_ wb _ _ _ gx gt tx (((p + j) + 1)) D true H (by omega)) (invokes Tryd.func22 rfl rfl) (fun w' hH => res_t1 rfl rfl) (fun w' hH => .inl ⟨rp.raw_cr hfi hj (by omega), rfl, ((p + j) + 1), hH.tail⟩)
        · skip
          have c135 := bc135
          have c135 := bne_eq_false_iff_eq.1 c135
          have hB := rp.raw_B (k := k) hfi hj (by omega)
          rw [← hbb, ← show HHW.bt tx (p : Int) = ((ints tx).drop p).getD 0 0 from hb1.trans e0.symm, List.drop_drop] at hB
          have hkr := HHW.bt_range tx p
          generalize HHW.bt tx (p : Int) = kd at *
          generalize hR : (ints tx).drop (p + (j + 1)) = R at hB
          have hb0 := rp.bt0 b
          have hbn := rp.ints_nil (s := b)
          refine wp_skip ?_
          refine e_then ?_
          refine wp_seq ?_
          refine c_region ?_
          refine l_pure S (p_move rfl) rfl rfl rfl ?_; clear S a; intro a S
          refine l_call S rfl rfl Tryd.func23 rfl rfl (sp.many_ wb _ _ _ kd H) rfl rfl rfl ?_
          rintro e w ⟨rfl, hH⟩
          refine ⟨_, rfl, ?_⟩; clear S a; intro a S
          clear H; have H := hH; clear hH
          refine l_pure S (p_move rfl) rfl rfl rfl ?_; clear S a; intro a S
          refine l_pure S (p_extract rfl rfl) rfl rfl rfl ?_; clear S a; intro a S
          refine l_pure S (p_extract rfl rfl) rfl rfl rfl ?_; clear S a; intro a S
          refine l_pure S (p_assign rfl) rfl rfl rfl ?_; clear S a; intro a S
          refine l_pure S (p_assign rfl) rfl rfl rfl ?_; clear S a; intro a S
          refine l_nil ?_
          refine e_then ?_
          refine c_cut (fun a w => SL a 201 [{ target := .fn (.func 22) #[.pointer (some ⟨gx, 0, none⟩)], args := #[] }] [(1, .pointer (some ⟨gx, 0, none⟩)), (2, .bool false), (4, .int .u8 kd), (5, .string b), (6, .int .i64 (rp.many kd : Int)), (7, .bool (decide (rp.many kd ≠ 0)))] ∧ HH (B) wb w ((gx, .cells #[.pointer (some ⟨gt, 0, none⟩)] 27 (0, 0)) :: (gt, .cells #[.string tx, .int .i64 ((p + j + 1 : Nat) : Int), .bool false, .int .i64 ((D + 1 : Nat) : Int)] 31 (0, 0)) :: L0) ∧ rp.NT kd (ints b)) ?_ ?_
          · clear S a H; rintro a w ⟨S, H, hinv⟩
            have hnt := hinv
            refine wp_seq ?_
            refine c_region ?_
            refine l_read S H (r_load rfl List.mem_cons_self rfl (fun w hc => ld1 ag27 hc)) rfl rfl rfl ?_; clear S a; intro a S
            refine l_pure S (p_move rfl) rfl rfl rfl ?_; clear S a; intro a S
            have hcon := sq.size_ wb _ _ _ gt tx (p + j + 1) (D + 1) b H.pull1 (by omega)
            refine l_call S rfl rfl Tryd.func26 rfl rfl hcon rfl rfl rfl ?_
            rintro e w ⟨n, ok, od', rfl, hH, ⟨hsz, rfl, rfl⟩ | ⟨hsz, rfl, rfl⟩ | ⟨hsz, rfl, rfl⟩⟩
            · skip
              refine ⟨_, rfl, ?_⟩; clear S a; intro a S; clear H hcon; have H := hH.pull1; clear hH
              refine l_pure S (p_move rfl) rfl rfl rfl ?_; clear S a; intro a S
              refine l_pure S (p_extract rfl rfl) rfl rfl rfl ?_; clear S a; intro a S
              refine l_pure S (p_extract rfl rfl) rfl rfl rfl ?_; clear S a; intro a S
              refine l_pure S (p_assign rfl) rfl rfl rfl ?_; clear S a; intro a S
              refine l_pure S (p_assign rfl) rfl rfl rfl ?_; clear S a; intro a S
              refine l_nil ?_
              refine e_then ?_
              refine wp_seq ?_
              refine wp_block ?_
              refine wp_seq ?_
              refine c_region ?_
              refine l_pure S (p_move rfl) rfl rfl rfl ?_; clear S a; intro a S
              refine l_pure S (p_not rfl) rfl rfl rfl ?_; clear S a; intro a S
              refine l_pure S (p_move rfl) rfl rfl rfl ?_; clear S a; intro a S
              refine l_off S rfl rfl rfl rfl rfl rfl rfl ?_; clear S a; intro a S
              refine l_off S rfl rfl rfl rfl rfl rfl rfl ?_; clear S a; intro a S
              refine l_pure S (p_pick_t rfl rfl rfl) rfl rfl rfl ?_; clear S a; intro a S
              refine l_pure S (p_move rfl) rfl rfl rfl ?_; clear S a; intro a S
              refine l_off S rfl rfl rfl rfl rfl rfl rfl ?_; clear S a; intro a S
              refine l_off S rfl rfl rfl rfl rfl rfl rfl ?_; clear S a; intro a S
              refine l_off S rfl rfl rfl rfl rfl rfl rfl ?_; clear S a; intro a S
              refine l_offU S rfl rfl rfl rfl rfl rfl ?_; clear S a; intro a S
              refine l_offU S rfl rfl rfl rfl rfl rfl ?_; clear S a; intro a S
              refine l_off S rfl rfl rfl rfl rfl rfl rfl ?_; clear S a; intro a S
              refine l_pure S (p_pick_t rfl rfl rfl) rfl rfl rfl ?_; clear S a; intro a S
              refine l_pure S (p_assign rfl) rfl rfl rfl ?_; clear S a; intro a S
              refine l_nil ?_
              refine e_then ?_
              refine c_cond (b := true) S rfl (fun _ => ?_) (fun h => by cases h)
              refine wp_seq ?_
              refine c_region ?_
              refine l_pure S (p_move rfl) rfl rfl rfl ?_; clear S a; intro a S
              refine l_pure S (p_assign rfl) rfl rfl rfl ?_; clear S a; intro a S
              refine l_nil ?_
              refine e_then ?_
              refine wp_ret ?_
              refine e_in_ret ?_
              refine e_then_ret ?_
              -- B {'sz': 0, 'rk': 'stop'} odd=True ok=False pos=(p + j + 1) tests=c5, c129, c132, c135
              exact r_doorR S (clo_ wb _ _ _ gx gt tx ((p + j + 1)) D true H (by omega)) (invokes Tryd.func22 rfl rfl) (fun w' hH => res_t1 rfl rfl) (fun w' hH => .inl ⟨(hB.trans (rp.B_odd hnt hsz)), rfl, (p + j + 1), hH.tail⟩)
            · skip
              refine ⟨_, rfl, ?_⟩; clear S a; intro a S; clear H hcon; have H := hH.pull1; clear hH
              refine l_pure S (p_move rfl) rfl rfl rfl ?_; clear S a; intro a S
              refine l_pure S (p_extract rfl rfl) rfl rfl rfl ?_; clear S a; intro a S
              refine l_pure S (p_extract rfl rfl) rfl rfl rfl ?_; clear S a; intro a S
              refine l_pure S (p_assign rfl) rfl rfl rfl ?_; clear S a; intro a S
              refine l_pure S (p_assign rfl) rfl rfl rfl ?_; clear S a; intro a S
              refine l_nil ?_
              refine e_then ?_
              refine wp_seq ?_
              refine wp_block ?_
              refine wp_seq ?_
              refine c_region ?_
              refine l_pure S (p_move rfl) rfl rfl rfl ?_; clear S a; intro a S
              refine l_pure S (p_not rfl) rfl rfl rfl ?_; clear S a; intro a S
              refine l_pure S (p_move rfl) rfl rfl rfl ?_; clear S a; intro a S
              refine l_off S rfl rfl rfl rfl rfl rfl rfl ?_; clear S a; intro a S
              refine l_off S rfl rfl rfl rfl rfl rfl rfl ?_; clear S a; intro a S
              refine l_pure S (p_pick_t rfl rfl rfl) rfl rfl rfl ?_; clear S a; intro a S
              refine l_pure S (p_move rfl) rfl rfl rfl ?_; clear S a; intro a S
              refine l_off S rfl rfl rfl rfl rfl rfl rfl ?_; clear S a; intro a S
              refine l_off S rfl rfl rfl rfl rfl rfl rfl ?_; clear S a; intro a S
              refine l_off S rfl rfl rfl rfl rfl rfl rfl ?_; clear S a; intro a S
              refine l_offU S rfl rfl rfl rfl rfl rfl ?_; clear S a; intro a S
              refine l_offU S rfl rfl rfl rfl rfl rfl ?_; clear S a; intro a S
              refine l_off S rfl rfl rfl rfl rfl rfl rfl ?_; clear S a; intro a S
              refine l_pure S (p_pick_t rfl rfl rfl) rfl rfl rfl ?_; clear S a; intro a S
              refine l_pure S (p_assign rfl) rfl rfl rfl ?_; clear S a; intro a S
              refine l_nil ?_
              refine e_then ?_
              refine c_cond (b := true) S rfl (fun _ => ?_) (fun h => by cases h)
              refine wp_seq ?_
              refine c_region ?_
              refine l_pure S (p_move rfl) rfl rfl rfl ?_; clear S a; intro a S
              refine l_pure S (p_assign rfl) rfl rfl rfl ?_; clear S a; intro a S
              refine l_nil ?_
              refine e_then ?_
              refine wp_ret ?_
              refine e_in_ret ?_
              refine e_then_ret ?_
              -- B {'sz': 1, 'rk': 'stop'} odd=False ok=False pos=(p + j + 1) tests=c5, c129, c132, c135
              exact r_doorR S (clo_ wb _ _ _ gx gt tx ((p + j + 1)) D false H (by omega)) (invokes Tryd.func22 rfl rfl) (fun w' hH => res_t1 rfl rfl) (fun w' hH => .inr (.inl ⟨(hB.trans (rp.B_no hnt hsz)), rfl, (p + j + 1), hH.tail⟩))
            · skip
              refine ⟨_, rfl, ?_⟩; clear S a; intro a S; clear H hcon; have H := hH.pull1; clear hH
              refine l_pure S (p_move rfl) rfl rfl rfl ?_; clear S a; intro a S
              refine l_pure S (p_extract rfl rfl) rfl rfl rfl ?_; clear S a; intro a S
              refine l_pure S (p_extract rfl rfl) rfl rfl rfl ?_; clear S a; intro a S
              refine l_pure S (p_assign rfl) rfl rfl rfl ?_; clear S a; intro a S
              refine l_pure S (p_assign rfl) rfl rfl rfl ?_; clear S a; intro a S
              refine l_nil ?_
              refine e_then ?_
              refine wp_seq ?_
              refine wp_block ?_
              refine wp_seq ?_
              refine c_region ?_
              refine l_pure S (p_move rfl) rfl rfl rfl ?_; clear S a; intro a S
              refine l_pure S (p_not rfl) rfl rfl rfl ?_; clear S a; intro a S
              refine l_pure S (p_move rfl) rfl rfl rfl ?_; clear S a; intro a S
              refine l_on S rfl rfl rfl rfl rfl ?_
              refine l_pure S (p_move rfl) rfl rfl rfl ?_; clear S a; intro a S
              refine l_on S rfl rfl rfl rfl rfl ?_
              refine l_pure S (p_eql rfl rfl) rfl rfl rfl ?_; clear S a; intro a S
              refine l_pure S (p_pick_f rfl rfl rfl) rfl rfl rfl ?_; clear S a; intro a S
              refine l_pure S (p_move rfl) rfl rfl rfl ?_; clear S a; intro a S
              refine l_split (S.of 173 rfl) (fun bc151 => ?_) (fun bc151 => ?_)
              · skip
                have c151 := bc151
                have c151 := eq_of_beq c151
                refine l_off S rfl rfl rfl rfl bc151 rfl rfl ?_; clear S a; intro a S
                refine l_off S rfl rfl rfl rfl bc151 rfl rfl ?_; clear S a; intro a S
                refine l_off S rfl rfl rfl rfl bc151 rfl rfl ?_; clear S a; intro a S
                refine l_offU S rfl rfl rfl rfl rfl rfl ?_; clear S a; intro a S
                refine l_offU S rfl rfl rfl rfl rfl rfl ?_; clear S a; intro a S
                refine l_off S rfl rfl rfl rfl bc151 rfl rfl ?_; clear S a; intro a S
                refine l_pure S (p_pick_t rfl bc151 rfl) rfl rfl rfl ?_; clear S a; intro a S
                refine l_pure S (p_assign rfl) rfl rfl rfl ?_; clear S a; intro a S
                refine l_nil ?_
                refine e_then ?_
                refine c_cond (b := true) S rfl (fun _ => ?_) (fun h => by cases h)
                refine wp_seq ?_
                refine c_region ?_
                refine l_pure S (p_move rfl) rfl rfl rfl ?_; clear S a; intro a S
                refine l_pure S (p_assign rfl) rfl rfl rfl ?_; clear S a; intro a S
                refine l_nil ?_
                refine e_then ?_
                refine wp_ret ?_
                refine e_in_ret ?_
                refine e_then_ret ?_
                -- B {'sz': 2, 'rk': 'stop'} odd=False ok=True pos=(p + j + 1) tests=c5, c129, c132, c135, c151
                exact r_doorR S (clo_ wb _ _ _ gx gt tx ((p + j + 1)) D false H (by omega)) (invokes Tryd.func22 rfl rfl) (fun w' hH => res_t1 rfl rfl) (fun w' hH => .inr (.inr ⟨(j + 1), (hB.trans (rp.B_stop hnt hsz (by omega))), rfl, by omega, hH.tail⟩))
              · skip
                have c151 := bc151
                have c151 := ne_of_beq_false c151
                refine l_on S rfl rfl rfl rfl bc151 ?_
                refine l_pure S (p_move rfl) rfl rfl rfl ?_; clear S a; intro a S
                refine l_on S rfl rfl rfl rfl bc151 ?_
                refine l_pure S (p_eql rfl rfl) rfl rfl rfl ?_; clear S a; intro a S
                refine l_on S rfl rfl rfl rfl bc151 ?_
                refine l_pure S (p_move rfl) rfl rfl rfl ?_; clear S a; intro a S
                refine l_split (S.of 176 rfl) (fun bc155 => ?_) (fun bc155 => ?_)
                · skip
                  have c155 := bc155
                  have c155 := eq_of_beq c155
                  refine l_on S rfl rfl rfl rfl bc155 ?_
                  refine l_pure S (p_move rfl) rfl rfl rfl ?_; clear S a; intro a S
                  refine l_on S rfl rfl rfl rfl bc155 ?_
                  refine l_pure S (p_eql rfl rfl) rfl rfl rfl ?_; clear S a; intro a S
                  refine l_on S rfl rfl rfl rfl bc151 ?_
                  refine l_pure S (p_pick_t rfl bc155 rfl) rfl rfl rfl ?_; clear S a; intro a S
                  refine l_pure S (p_pick_f rfl bc151 rfl) rfl rfl rfl ?_; clear S a; intro a S
                  refine l_pure S (p_assign rfl) rfl rfl rfl ?_; clear S a; intro a S
                  refine l_nil ?_
                  refine e_then ?_
                  refine c_cond S rfl (fun bc157 => ?_) (fun bc157 => ?_)
                  · skip
                    have c157 := bc157
                    have c157 := eq_of_beq c157
                    refine wp_seq ?_
                    refine c_region ?_
                    refine l_pure S (p_move rfl) rfl rfl rfl ?_; clear S a; intro a S
                    refine l_pure S (p_assign rfl) rfl rfl rfl ?_; clear S a; intro a S
                    refine l_nil ?_
                    refine e_then ?_
                    refine wp_ret ?_
                    refine e_in_ret ?_
                    refine e_then_ret ?_
                    -- B {'sz': 2, 'rk': 'stop'} odd=False ok=True pos=(p + j + 1) tests=c5, c129, c132, c135, c151, c155, c157
                    exact r_doorR S (clo_ wb _ _ _ gx gt tx ((p + j + 1)) D false H (by omega)) (invokes Tryd.func22 rfl rfl) (fun w' hH => res_t1 rfl rfl) (fun w' hH => .inr (.inr ⟨(j + 1), (hB.trans (rp.B_stop hnt hsz (by omega))), rfl, by omega, hH.tail⟩))
                  · skip
                    have c157 := bc157
                    have c157 := ne_of_beq_false c157
                    refine wp_seq ?_
                    refine c_region ?_
                    refine l_pure S (p_move rfl) rfl rfl rfl ?_; clear S a; intro a S
                    refine l_pure S (p_assign rfl) rfl rfl rfl ?_; clear S a; intro a S
                    refine l_nil ?_
                    refine e_then ?_
                    refine c_cond S rfl (fun bc159 => ?_) (fun bc159 => ?_)
                    · skip
                      have c159 := bc159
                      have hn1 := rp.size_ge hsz
                      obtain ⟨m, rfl⟩ := Int.eq_ofNat_of_zero_le (show 0 ≤ n by omega)
                      have hmk : rp.many kd ≠ 0 := of_decide_eq_true bc159
                      have hmp := rp.many_pos hmk
                      have hmN : m * rp.many kd ≤ m * 2 := Nat.mul_le_mul_left _ hmp.2
                      refine wp_seq ?_
                      refine wp_seq ?_
                      refine c_region ?_
                      refine l_pure S (p_assign rfl) rfl rfl rfl ?_; clear S a; intro a S
                      refine l_nil ?_
                      refine e_then ?_
                      refine wp_block ?_
                      refine c_loop (σ := Nat × Nat) (fun s_ a w => match s_ with | ⟨i, c⟩ => SL a 201 [{ target := .fn (.func 22) #[.pointer (some ⟨gx, 0, none⟩)], args := #[] }] [(1, .pointer (some ⟨gx, 0, none⟩)), (4, .int .u8 kd), (6, .int .i64 (rp.many kd : Int)), (8, .int .i64 (m : Int)), (9, .int .i64 (i : Int))] ∧ HH (B) wb w ((gx, .cells #[.pointer (some ⟨gt, 0, none⟩)] 27 (0, 0)) :: (gt, .cells #[.string tx, .int .i64 ((p + (j + 1) + c : Nat) : Int), .bool false, .int .i64 ((D + 1 : Nat) : Int)] 31 (0, 0)) :: L0) ∧ (i ≤ m * rp.many kd ∧ p + (j + 1) + c ≤ tx.size ∧ rp.manyR (rp.raw k) (m * rp.many kd) R = (rp.manyR (rp.raw k) (m * rp.many kd - i) (R.drop c)).map (Option.map (c + ·)))) (fun s_ => match s_ with | ⟨i, c⟩ => m * rp.many kd - i) ⟨0, 0⟩ ⟨S.only ⟨rfl, rfl, rfl, rfl, rfl, trivial⟩, H, ⟨Nat.zero_le _, by omega, by rw [Nat.sub_zero, List.drop_zero]; cases rp.manyR (rp.raw k) (m * rp.many kd) R with | none => rfl | some x => cases x <;> simp⟩⟩ ?_
                      clear S a H; rintro ⟨i, c⟩ a w ⟨S, H, hinv⟩
                      obtain ⟨hi, hc, hM⟩ := hinv
                      refine wp_seq ?_
                      refine wp_seq ?_
                      refine c_region ?_
                      refine l_pure S (p_move rfl) rfl rfl rfl ?_; clear S a; intro a S
                      refine l_pure S (p_move rfl) rfl rfl rfl ?_; clear S a; intro a S
                      refine l_pure S (p_move rfl) rfl rfl rfl ?_; clear S a; intro a S
                      refine l_pure S (p_mul rfl rfl (nat_mul (x := m) (y := (rp.many kd)) (by omega))) rfl rfl rfl ?_; clear S a; intro a S
                      refine l_pure S (p_lss rfl rfl) rfl rfl rfl ?_; clear S a; intro a S
                      refine l_nil ?_
                      refine e_then ?_
                      refine c_cond S rfl (fun bc161 => ?_) (fun bc161 => ?_)
                      · skip
                        have c161 := bc161
                        have c161 := of_decide_eq_true c161
                        refine wp_skip ?_
                        refine e_then ?_
                        refine wp_seq ?_
                        refine wp_block ?_
                        refine wp_seq ?_
                        refine c_region ?_
                        refine l_read S H (r_load rfl List.mem_cons_self rfl (fun w hc => ld1 ag27 hc)) rfl rfl rfl ?_; clear S a; intro a S
                        have hcon := ih wb _ B _ gt tx (p + (j + 1) + c) (D + 1) H.pull1 (by omega) hS (by omega)
                        rw [← List.drop_drop, hR] at hcon
                        refine l_call S rfl rfl Tryd.func9 rfl rfl hcon rfl rfl rfl ?_
                        rintro e w (⟨hr, rfl, p1, hH⟩ | ⟨hr, rfl, p1, hH⟩ | ⟨c1, hr, rfl, hc1, hH⟩)
                        · skip
                          refine ⟨_, rfl, ?_⟩; clear S a; intro a S; clear H hcon; have H := hH.pull1; clear hH
                          refine l_pure S (p_not rfl) rfl rfl rfl ?_; clear S a; intro a S
                          refine l_nil ?_
                          refine e_then ?_
                          refine c_cond (b := true) S rfl (fun _ => ?_) (fun h => by cases h)
                          refine wp_seq ?_
                          refine c_region ?_
                          refine l_pure S (p_assign rfl) rfl rfl rfl ?_; clear S a; intro a S
                          refine l_nil ?_
                          refine e_then ?_
                          refine wp_ret ?_
                          refine e_in_ret ?_
                          refine e_then_ret ?_
                          refine e_then_ret ?_
                          refine e_in_ret ?_
                          refine e_then_ret ?_
                          refine e_in_ret ?_
                          refine e_then_ret ?_
                          -- B {'sz': 2, 'm': 1, 'rec': 0} odd=True ok=False pos=p1 tests=c5, c129, c132, c135, c151, c155, c157, c159, c161
                          exact r_doorR S (clo_ wb _ _ _ gx gt tx (p1) D true H (by omega)) (invokes Tryd.func22 rfl rfl) (fun w' hH => res_t1 rfl rfl) (fun w' hH => .inl ⟨(hB.trans (rp.B_many hnt hsz (by omega) hmk (rp.many_odd (by omega) hM hr))), rfl, p1, hH.tail⟩)
                        · skip
                          refine ⟨_, rfl, ?_⟩; clear S a; intro a S; clear H hcon; have H := hH.pull1; clear hH
                          refine l_pure S (p_not rfl) rfl rfl rfl ?_; clear S a; intro a S
                          refine l_nil ?_
                          refine e_then ?_
                          refine c_cond (b := true) S rfl (fun _ => ?_) (fun h => by cases h)
                          refine wp_seq ?_
                          refine c_region ?_
                          refine l_pure S (p_assign rfl) rfl rfl rfl ?_; clear S a; intro a S
                          refine l_nil ?_
                          refine e_then ?_
                          refine wp_ret ?_
                          refine e_in_ret ?_
                          refine e_then_ret ?_
                          refine e_then_ret ?_
                          refine e_in_ret ?_
                          refine e_then_ret ?_
                          refine e_in_ret ?_
                          refine e_then_ret ?_
                          -- B {'sz': 2, 'm': 1, 'rec': 1} odd=False ok=False pos=p1 tests=c5, c129, c132, c135, c151, c155, c157, c159, c161
                          exact r_doorR S (clo_ wb _ _ _ gx gt tx (p1) D false H (by omega)) (invokes Tryd.func22 rfl rfl) (fun w' hH => res_t1 rfl rfl) (fun w' hH => .inr (.inl ⟨(hB.trans (rp.B_many hnt hsz (by omega) hmk (rp.many_no (by omega) hM hr))), rfl, p1, hH.tail⟩))
                        · skip
                          refine ⟨_, rfl, ?_⟩; clear S a; intro a S; clear H hcon; have H := hH.pull1; clear hH
                          rw [Nat.add_assoc (p + (j + 1)) c c1] at H
                          refine l_pure S (p_not rfl) rfl rfl rfl ?_; clear S a; intro a S
                          refine l_nil ?_
                          refine e_then ?_
                          refine c_cond (b := false) S rfl (fun h => by cases h) (fun _ => ?_)
                          refine wp_skip ?_
                          refine e_in 5 ?_
                          refine e_then ?_
                          refine c_region ?_
                          refine l_pure S (p_move rfl) rfl rfl rfl ?_; clear S a; intro a S
                          refine l_pure S (p_add rfl rfl (nat_add (x := i) (y := 1) (by omega))) rfl rfl rfl ?_; clear S a; intro a S
                          refine l_pure S (p_assign rfl) rfl rfl rfl ?_; clear S a; intro a S
                          refine l_nil ?_
                          refine e_then ?_
                          exact ⟨⟨i + 1, c + c1⟩, ⟨S.only ⟨rfl, rfl, rfl, rfl, rfl, trivial⟩, H, ⟨by omega, by omega, rp.many_yes (by omega) hM hr⟩⟩, (show m * rp.many kd - (i + 1) < m * rp.many kd - i by omega)⟩
                      · skip
                        have c161 := bc161
                        have c161 := of_decide_eq_false c161
                        refine wp_exit ?_
                        refine e_then_exit ?_
                        refine e_then_exit ?_
                        refine e_in_exit ?_
                        refine e_then ?_
                        refine wp_seq ?_
                        refine c_region ?_
                        refine l_pure S (p_assign rfl) rfl rfl rfl ?_; clear S a; intro a S
                        refine l_nil ?_
                        refine e_then ?_
                        refine wp_ret ?_
                        refine e_in_ret ?_
                        refine e_then_ret ?_
                        -- B {'sz': 2, 'm': 1, 'rk': 'mdone'} odd=False ok=True pos=(p + (j + 1) + c) tests=c5, c129, c132, c135, c151, c155, c157, c159, c161
                        rw [Nat.add_assoc p (j + 1) c] at H
                        exact r_doorR S (clo_ wb _ _ _ gx gt tx (p + (j + 1 + c)) D false H (by omega)) (invokes Tryd.func22 rfl rfl) (fun w' hH => res_t1 rfl rfl) (fun w' hH => .inr (.inr ⟨(j + 1 + c), (hB.trans (rp.B_many hnt hsz (by omega) hmk (rp.many_done (by omega) hM))), rfl, by omega, hH.tail⟩))
                    · skip
                      have c159 := bc159
                      have hn1 := rp.size_ge hsz
                      obtain ⟨m, rfl⟩ := Int.eq_ofNat_of_zero_le (show 0 ≤ n by omega)
                      have hmk : rp.many kd = 0 := by simpa using (of_decide_eq_false bc159 : ¬ rp.many kd ≠ 0)
                      refine wp_skip ?_
                      refine e_in 3 ?_
                      refine e_then ?_
                      refine wp_seq ?_
                      refine c_region ?_
                      refine l_read S H (r_load rfl List.mem_cons_self rfl (fun w hc => ld1 ag27 hc)) rfl rfl rfl ?_; clear S a; intro a S
                      refine l_pure S (p_move rfl) rfl rfl rfl ?_; clear S a; intro a S
                      have hcon := sq.body_ wb _ _ _ gt tx (p + j + 1) (D + 1) m H.pull1 (by omega) hS (by omega)
                      rw [show p + j + 1 = p + (j + 1) by omega, hR] at hcon
                      refine l_call S rfl rfl Tryd.func27 rfl rfl hcon rfl rfl rfl ?_
                      rintro e w ⟨str, ok, od', p1, rfl, hH, ⟨hr, rfl, rfl⟩ | ⟨hr, rfl, rfl⟩ | ⟨c1, hr, rfl, rfl, rfl⟩⟩
                      · skip
                        refine ⟨_, rfl, ?_⟩; clear S a; intro a S; clear H hcon; have H := hH.pull1; clear hH
                        refine l_pure S (p_move rfl) rfl rfl rfl ?_; clear S a; intro a S
                        refine l_pure S (p_extract rfl rfl) rfl rfl rfl ?_; clear S a; intro a S
                        refine l_pure S (p_extract rfl rfl) rfl rfl rfl ?_; clear S a; intro a S
                        refine l_pure S (p_assign rfl) rfl rfl rfl ?_; clear S a; intro a S
                        refine l_nil ?_
                        refine e_then ?_
                        refine wp_seq ?_
                        refine c_region ?_
                        refine l_pure S (p_move rfl) rfl rfl rfl ?_; clear S a; intro a S
                        refine l_pure S (p_assign rfl) rfl rfl rfl ?_; clear S a; intro a S
                        refine l_nil ?_
                        refine e_then ?_
                        refine wp_ret ?_
                        -- B {'sz': 2, 'm': 2, 'bod': 0} odd=True ok=False pos=p1 tests=c5, c129, c132, c135, c151, c155, c157, c159
                        exact r_doorR S (clo_ wb _ _ _ gx gt tx (p1) D true H (by omega)) (invokes Tryd.func22 rfl rfl) (fun w' hH => res_t1 rfl rfl) (fun w' hH => .inl ⟨(hB.trans (rp.B_body hnt hsz (by omega) hmk hr)), rfl, p1, hH.tail⟩)
                      · skip
                        refine ⟨_, rfl, ?_⟩; clear S a; intro a S; clear H hcon; have H := hH.pull1; clear hH
                        refine l_pure S (p_move rfl) rfl rfl rfl ?_; clear S a; intro a S
                        refine l_pure S (p_extract rfl rfl) rfl rfl rfl ?_; clear S a; intro a S
                        refine l_pure S (p_extract rfl rfl) rfl rfl rfl ?_; clear S a; intro a S
                        refine l_pure S (p_assign rfl) rfl rfl rfl ?_; clear S a; intro a S
                        refine l_nil ?_
                        refine e_then ?_
                        refine wp_seq ?_
                        refine c_region ?_
                        refine l_pure S (p_move rfl) rfl rfl rfl ?_; clear S a; intro a S
                        refine l_pure S (p_assign rfl) rfl rfl rfl ?_; clear S a; intro a S
                        refine l_nil ?_
                        refine e_then ?_
                        refine wp_ret ?_
                        -- B {'sz': 2, 'm': 2, 'bod': 1} odd=False ok=False pos=p1 tests=c5, c129, c132, c135, c151, c155, c157, c159
                        exact r_doorR S (clo_ wb _ _ _ gx gt tx (p1) D false H (by omega)) (invokes Tryd.func22 rfl rfl) (fun w' hH => res_t1 rfl rfl) (fun w' hH => .inr (.inl ⟨(hB.trans (rp.B_body hnt hsz (by omega) hmk hr)), rfl, p1, hH.tail⟩))
                      · skip
                        refine ⟨_, rfl, ?_⟩; clear S a; intro a S; clear H hcon; have H := hH.pull1; clear hH
                        have hle := rp.body_le hr
                        have hRl : R.length = tx.size - (p + (j + 1)) := by rw [← hR, List.length_drop, hl]
                        refine l_pure S (p_move rfl) rfl rfl rfl ?_; clear S a; intro a S
                        refine l_pure S (p_extract rfl rfl) rfl rfl rfl ?_; clear S a; intro a S
                        refine l_pure S (p_extract rfl rfl) rfl rfl rfl ?_; clear S a; intro a S
                        refine l_pure S (p_assign rfl) rfl rfl rfl ?_; clear S a; intro a S
                        refine l_nil ?_
                        refine e_then ?_
                        refine wp_seq ?_
                        refine c_region ?_
                        refine l_pure S (p_move rfl) rfl rfl rfl ?_; clear S a; intro a S
                        refine l_pure S (p_assign rfl) rfl rfl rfl ?_; clear S a; intro a S
                        refine l_nil ?_
                        refine e_then ?_
                        refine wp_ret ?_
                        -- B {'sz': 2, 'm': 2, 'bod': 2} odd=False ok=True pos=(p + (j + 1) + c1) tests=c5, c129, c132, c135, c151, c155, c157, c159
                        rw [Nat.add_assoc p (j + 1) c1] at H
                        exact r_doorR S (clo_ wb _ _ _ gx gt tx (p + (j + 1 + c1)) D false H (by omega)) (invokes Tryd.func22 rfl rfl) (fun w' hH => res_t1 rfl rfl) (fun w' hH => .inr (.inr ⟨(j + 1 + c1), (hB.trans (rp.B_body hnt hsz (by omega) hmk hr)), rfl, by omega, hH.tail⟩))
                · skip
                  have c155 := bc155
                  have c155 := ne_of_beq_false c155
                  refine l_off S rfl rfl rfl rfl bc155 rfl rfl ?_; clear S a; intro a S
                  refine l_off S rfl rfl rfl rfl bc155 rfl rfl ?_; clear S a; intro a S
                  refine l_on S rfl rfl rfl rfl bc151 ?_
                  refine l_pure S (p_pick_f rfl bc155 rfl) rfl rfl rfl ?_; clear S a; intro a S
                  refine l_pure S (p_pick_f rfl bc151 rfl) rfl rfl rfl ?_; clear S a; intro a S
                  refine l_pure S (p_assign rfl) rfl rfl rfl ?_; clear S a; intro a S
                  refine l_nil ?_
                  refine e_then ?_
                  refine c_cond (b := false) S rfl (fun h => by cases h) (fun _ => ?_)
                  refine wp_seq ?_
                  refine c_region ?_
                  refine l_pure S (p_move rfl) rfl rfl rfl ?_; clear S a; intro a S
                  refine l_pure S (p_assign rfl) rfl rfl rfl ?_; clear S a; intro a S
                  refine l_nil ?_
                  refine e_then ?_
                  refine c_cond S rfl (fun bc180 => ?_) (fun bc180 => ?_)
                  · skip
                    have c180 := bc180
                    have hn1 := rp.size_ge hsz
                    obtain ⟨m, rfl⟩ := Int.eq_ofNat_of_zero_le (show 0 ≤ n by omega)
                    have hmk : rp.many kd ≠ 0 := of_decide_eq_true bc180
                    have hmp := rp.many_pos hmk
                    have hmN : m * rp.many kd ≤ m * 2 := Nat.mul_le_mul_left _ hmp.2
                    refine wp_seq ?_
                    refine wp_seq ?_
                    refine c_region ?_
                    refine l_pure S (p_assign rfl) rfl rfl rfl ?_; clear S a; intro a S
                    refine l_nil ?_
                    refine e_then ?_
                    refine wp_block ?_
                    refine c_loop (σ := Nat × Nat) (fun s_ a w => match s_ with | ⟨i, c⟩ => SL a 201 [{ target := .fn (.func 22) #[.pointer (some ⟨gx, 0, none⟩)], args := #[] }] [(1, .pointer (some ⟨gx, 0, none⟩)), (4, .int .u8 kd), (6, .int .i64 (rp.many kd : Int)), (8, .int .i64 (m : Int)), (9, .int .i64 (i : Int))] ∧ HH (B) wb w ((gx, .cells #[.pointer (some ⟨gt, 0, none⟩)] 27 (0, 0)) :: (gt, .cells #[.string tx, .int .i64 ((p + (j + 1) + c : Nat) : Int), .bool false, .int .i64 ((D + 1 : Nat) : Int)] 31 (0, 0)) :: L0) ∧ (i ≤ m * rp.many kd ∧ p + (j + 1) + c ≤ tx.size ∧ rp.manyR (rp.raw k) (m * rp.many kd) R = (rp.manyR (rp.raw k) (m * rp.many kd - i) (R.drop c)).map (Option.map (c + ·)))) (fun s_ => match s_ with | ⟨i, c⟩ => m * rp.many kd - i) ⟨0, 0⟩ ⟨S.only ⟨rfl, rfl, rfl, rfl, rfl, trivial⟩, H, ⟨Nat.zero_le _, by omega, by rw [Nat.sub_zero, List.drop_zero]; cases rp.manyR (rp.raw k) (m * rp.many kd) R with | none => rfl | some x => cases x <;> simp⟩⟩ ?_
                    clear S a H; rintro ⟨i, c⟩ a w ⟨S, H, hinv⟩
                    obtain ⟨hi, hc, hM⟩ := hinv
                    refine wp_seq ?_
                    refine wp_seq ?_
                    refine c_region ?_
                    refine l_pure S (p_move rfl) rfl rfl rfl ?_; clear S a; intro a S
                    refine l_pure S (p_move rfl) rfl rfl rfl ?_; clear S a; intro a S
                    refine l_pure S (p_move rfl) rfl rfl rfl ?_; clear S a; intro a S
                    refine l_pure S (p_mul rfl rfl (nat_mul (x := m) (y := (rp.many kd)) (by omega))) rfl rfl rfl ?_; clear S a; intro a S
                    refine l_pure S (p_lss rfl rfl) rfl rfl rfl ?_; clear S a; intro a S
                    refine l_nil ?_
                    refine e_then ?_
                    refine c_cond S rfl (fun bc182 => ?_) (fun bc182 => ?_)
                    · skip
                      have c182 := bc182
                      have c182 := of_decide_eq_true c182
                      refine wp_skip ?_
                      refine e_then ?_
                      refine wp_seq ?_
                      refine wp_block ?_
                      refine wp_seq ?_
                      refine c_region ?_
                      refine l_read S H (r_load rfl List.mem_cons_self rfl (fun w hc => ld1 ag27 hc)) rfl rfl rfl ?_; clear S a; intro a S
                      have hcon := ih wb _ B _ gt tx (p + (j + 1) + c) (D + 1) H.pull1 (by omega) hS (by omega)
                      rw [← List.drop_drop, hR] at hcon
                      refine l_call S rfl rfl Tryd.func9 rfl rfl hcon rfl rfl rfl ?_
                      rintro e w (⟨hr, rfl, p1, hH⟩ | ⟨hr, rfl, p1, hH⟩ | ⟨c1, hr, rfl, hc1, hH⟩)
                      · skip
                        refine ⟨_, rfl, ?_⟩; clear S a; intro a S; clear H hcon; have H := hH.pull1; clear hH
                        refine l_pure S (p_not rfl) rfl rfl rfl ?_; clear S a; intro a S
                        refine l_nil ?_
                        refine e_then ?_
                        refine c_cond (b := true) S rfl (fun _ => ?_) (fun h => by cases h)
                        refine wp_seq ?_
                        refine c_region ?_
                        refine l_pure S (p_assign rfl) rfl rfl rfl ?_; clear S a; intro a S
                        refine l_nil ?_
                        refine e_then ?_
                        refine wp_ret ?_
                        refine e_in_ret ?_
                        refine e_then_ret ?_
                        refine e_then_ret ?_
                        refine e_in_ret ?_
                        refine e_then_ret ?_
                        refine e_in_ret ?_
                        refine e_then_ret ?_
                        -- B {'sz': 2, 'm': 1, 'rec': 0} odd=True ok=False pos=p1 tests=c5, c129, c132, c135, c151, c155, c180, c182
                        exact r_doorR S (clo_ wb _ _ _ gx gt tx (p1) D true H (by omega)) (invokes Tryd.func22 rfl rfl) (fun w' hH => res_t1 rfl rfl) (fun w' hH => .inl ⟨(hB.trans (rp.B_many hnt hsz (by omega) hmk (rp.many_odd (by omega) hM hr))), rfl, p1, hH.tail⟩)
                      · skip
                        refine ⟨_, rfl, ?_⟩; clear S a; intro a S; clear H hcon; have H := hH.pull1; clear hH
                        refine l_pure S (p_not rfl) rfl rfl rfl ?_; clear S a; intro a S
                        refine l_nil ?_
                        refine e_then ?_
                        refine c_cond (b := true) S rfl (fun _ => ?_) (fun h => by cases h)
                        refine wp_seq ?_
                        refine c_region ?_
                        refine l_pure S (p_assign rfl) rfl rfl rfl ?_; clear S a; intro a S
                        refine l_nil ?_
                        refine e_then ?_
                        refine wp_ret ?_
                        refine e_in_ret ?_
                        refine e_then_ret ?_
                        refine e_then_ret ?_
                        refine e_in_ret ?_
                        refine e_then_ret ?_
                        refine e_in_ret ?_
                        refine e_then_ret ?_
                        -- B {'sz': 2, 'm': 1, 'rec': 1} odd=False ok=False pos=p1 tests=c5, c129, c132, c135, c151, c155, c180, c182
                        exact r_doorR S (clo_ wb _ _ _ gx gt tx (p1) D false H (by omega)) (invokes Tryd.func22 rfl rfl) (fun w' hH => res_t1 rfl rfl) (fun w' hH => .inr (.inl ⟨(hB.trans (rp.B_many hnt hsz (by omega) hmk (rp.many_no (by omega) hM hr))), rfl, p1, hH.tail⟩))
                      · skip
                        refine ⟨_, rfl, ?_⟩; clear S a; intro a S; clear H hcon; have H := hH.pull1; clear hH
                        rw [Nat.add_assoc (p + (j + 1)) c c1] at H
                        refine l_pure S (p_not rfl) rfl rfl rfl ?_; clear S a; intro a S
                        refine l_nil ?_
                        refine e_then ?_
                        refine c_cond (b := false) S rfl (fun h => by cases h) (fun _ => ?_)
                        refine wp_skip ?_
                        refine e_in 5 ?_
                        refine e_then ?_
                        refine c_region ?_
                        refine l_pure S (p_move rfl) rfl rfl rfl ?_; clear S a; intro a S
                        refine l_pure S (p_add rfl rfl (nat_add (x := i) (y := 1) (by omega))) rfl rfl rfl ?_; clear S a; intro a S
                        refine l_pure S (p_assign rfl) rfl rfl rfl ?_; clear S a; intro a S
                        refine l_nil ?_
                        refine e_then ?_
                        exact ⟨⟨i + 1, c + c1⟩, ⟨S.only ⟨rfl, rfl, rfl, rfl, rfl, trivial⟩, H, ⟨by omega, by omega, rp.many_yes (by omega) hM hr⟩⟩, (show m * rp.many kd - (i + 1) < m * rp.many kd - i by omega)⟩
                    · skip
                      have c182 := bc182
                      have c182 := of_decide_eq_false c182
                      refine wp_exit ?_
                      refine e_then_exit ?_
                      refine e_then_exit ?_
                      refine e_in_exit ?_
                      refine e_then ?_
                      refine wp_seq ?_
                      refine c_region ?_
                      refine l_pure S (p_assign rfl) rfl rfl rfl ?_; clear S a; intro a S
                      refine l_nil ?_
                      refine e_then ?_
                      refine wp_ret ?_
                      refine e_in_ret ?_
                      refine e_then_ret ?_
                      -- B {'sz': 2, 'm': 1, 'rk': 'mdone'} odd=False ok=True pos=(p + (j + 1) + c) tests=c5, c129, c132, c135, c151, c155, c180, c182
                      rw [Nat.add_assoc p (j + 1) c] at H
                      exact r_doorR S (clo_ wb _ _ _ gx gt tx (p + (j + 1 + c)) D false H (by omega)) (invokes Tryd.func22 rfl rfl) (fun w' hH => res_t1 rfl rfl) (fun w' hH => .inr (.inr ⟨(j + 1 + c), (hB.trans (rp.B_many hnt hsz (by omega) hmk (rp.many_done (by omega) hM))), rfl, by omega, hH.tail⟩))
                  · skip
                    have c180 := bc180
                    have hn1 := rp.size_ge hsz
                    obtain ⟨m, rfl⟩ := Int.eq_ofNat_of_zero_le (show 0 ≤ n by omega)
                    have hmk : rp.many kd = 0 := by simpa using (of_decide_eq_false bc180 : ¬ rp.many kd ≠ 0)
                    refine wp_skip ?_
                    refine e_in 3 ?_
                    refine e_then ?_
                    refine wp_seq ?_
                    refine c_region ?_
                    refine l_read S H (r_load rfl List.mem_cons_self rfl (fun w hc => ld1 ag27 hc)) rfl rfl rfl ?_; clear S a; intro a S
                    refine l_pure S (p_move rfl) rfl rfl rfl ?_; clear S a; intro a S
                    have hcon := sq.body_ wb _ _ _ gt tx (p + j + 1) (D + 1) m H.pull1 (by omega) hS (by omega)
                    rw [show p + j + 1 = p + (j + 1) by omega, hR] at hcon
                    refine l_call S rfl rfl Tryd.func27 rfl rfl hcon rfl rfl rfl ?_
                    rintro e w ⟨str, ok, od', p1, rfl, hH, ⟨hr, rfl, rfl⟩ | ⟨hr, rfl, rfl⟩ | ⟨c1, hr, rfl, rfl, rfl⟩⟩
                    · skip
                      refine ⟨_, rfl, ?_⟩; clear S a; intro a S; clear H hcon; have H := hH.pull1; clear hH
                      refine l_pure S (p_move rfl) rfl rfl rfl ?_; clear S a; intro a S
                      refine l_pure S (p_extract rfl rfl) rfl rfl rfl ?_; clear S a; intro a S
                      refine l_pure S (p_extract rfl rfl) rfl rfl rfl ?_; clear S a; intro a S
                      refine l_pure S (p_assign rfl) rfl rfl rfl ?_; clear S a; intro a S
                      refine l_nil ?_
                      refine e_then ?_
                      refine wp_seq ?_
                      refine c_region ?_
                      refine l_pure S (p_move rfl) rfl rfl rfl ?_; clear S a; intro a S
                      refine l_pure S (p_assign rfl) rfl rfl rfl ?_; clear S a; intro a S
                      refine l_nil ?_
                      refine e_then ?_
                      refine wp_ret ?_
                      -- B {'sz': 2, 'm': 2, 'bod': 0} odd=True ok=False pos=p1 tests=c5, c129, c132, c135, c151, c155, c180
                      exact r_doorR S (clo_ wb _ _ _ gx gt tx (p1) D true H (by omega)) (invokes Tryd.func22 rfl rfl) (fun w' hH => res_t1 rfl rfl) (fun w' hH => .inl ⟨(hB.trans (rp.B_body hnt hsz (by omega) hmk hr)), rfl, p1, hH.tail⟩)
                    · skip
                      refine ⟨_, rfl, ?_⟩; clear S a; intro a S; clear H hcon; have H := hH.pull1; clear hH
                      refine l_pure S (p_move rfl) rfl rfl rfl ?_; clear S a; intro a S
                      refine l_pure S (p_extract rfl rfl) rfl rfl rfl ?_; clear S a; intro a S
                      refine l_pure S (p_extract rfl rfl) rfl rfl rfl ?_; clear S a; intro a S
                      refine l_pure S (p_assign rfl) rfl rfl rfl ?_; clear S a; intro a S
                      refine l_nil ?_
                      refine e_then ?_
                      refine wp_seq ?_
                      refine c_region ?_
                      refine l_pure S (p_move rfl) rfl rfl rfl ?_; clear S a; intro a S
                      refine l_pure S (p_assign rfl) rfl rfl rfl ?_; clear S a; intro a S
                      refine l_nil ?_
                      refine e_then ?_
                      refine wp_ret ?_
                      -- B {'sz': 2, 'm': 2, 'bod': 1} odd=False ok=False pos=p1 tests=c5, c129, c132, c135, c151, c155, c180
                      exact r_doorR S (clo_ wb _ _ _ gx gt tx (p1) D false H (by omega)) (invokes Tryd.func22 rfl rfl) (fun w' hH => res_t1 rfl rfl) (fun w' hH => .inr (.inl ⟨(hB.trans (rp.B_body hnt hsz (by omega) hmk hr)), rfl, p1, hH.tail⟩))
                    · skip
                      refine ⟨_, rfl, ?_⟩; clear S a; intro a S; clear H hcon; have H := hH.pull1; clear hH
                      have hle := rp.body_le hr
                      have hRl : R.length = tx.size - (p + (j + 1)) := by rw [← hR, List.length_drop, hl]
                      refine l_pure S (p_move rfl) rfl rfl rfl ?_; clear S a; intro a S
                      refine l_pure S (p_extract rfl rfl) rfl rfl rfl ?_; clear S a; intro a S
                      refine l_pure S (p_extract rfl rfl) rfl rfl rfl ?_; clear S a; intro a S
                      refine l_pure S (p_assign rfl) rfl rfl rfl ?_; clear S a; intro a S
                      refine l_nil ?_
                      refine e_then ?_
                      refine wp_seq ?_
                      refine c_region ?_
                      refine l_pure S (p_move rfl) rfl rfl rfl ?_; clear S a; intro a S
                      refine l_pure S (p_assign rfl) rfl rfl rfl ?_; clear S a; intro a S
                      refine l_nil ?_
                      refine e_then ?_
                      refine wp_ret ?_
                      -- B {'sz': 2, 'm': 2, 'bod': 2} odd=False ok=True pos=(p + (j + 1) + c1) tests=c5, c129, c132, c135, c151, c155, c180
                      rw [Nat.add_assoc p (j + 1) c1] at H
                      exact r_doorR S (clo_ wb _ _ _ gx gt tx (p + (j + 1 + c1)) D false H (by omega)) (invokes Tryd.func22 rfl rfl) (fun w' hH => res_t1 rfl rfl) (fun w' hH => .inr (.inr ⟨(j + 1 + c1), (hB.trans (rp.B_body hnt hsz (by omega) hmk hr)), rfl, by omega, hH.tail⟩))
          · skip
            refine wp_block ?_
            refine wp_seq ?_
            refine c_region ?_
            refine l_pure S (p_move rfl) rfl rfl rfl ?_; clear S a; intro a S
            refine l_pure S (p_eql rfl rfl) rfl rfl rfl ?_; clear S a; intro a S
            refine l_pure S (p_move rfl) rfl rfl rfl ?_; clear S a; intro a S
            refine l_split (S.of 123 rfl) (fun bc199 => ?_) (fun bc199 => ?_)
            · skip
              have c199 := bc199
              have c199 := eq_of_beq c199
              refine l_off S rfl rfl rfl rfl bc199 rfl rfl ?_; clear S a; intro a S
              refine l_off S rfl rfl rfl rfl bc199 rfl rfl ?_; clear S a; intro a S
              refine l_pure S (p_pick_t rfl bc199 rfl) rfl rfl rfl ?_; clear S a; intro a S
              refine l_pure S (p_assign rfl) rfl rfl rfl ?_; clear S a; intro a S
              refine l_nil ?_
              refine e_then ?_
              refine c_cond (b := true) S rfl (fun _ => ?_) (fun h => by cases h)
              refine wp_seq ?_
              refine c_region ?_
              refine l_pure S (p_assign rfl) rfl rfl rfl ?_; clear S a; intro a S
              refine l_nil ?_
              refine e_then ?_
              refine wp_ret ?_
              refine e_in_ret ?_
              refine e_then_ret ?_
              -- B {'rk': 'line'} odd=False ok=True pos=((p + j) + 1) tests=c5, c129, c132, c135, c199
              exact r_doorR S (clo_ wb _ _ _ gx gt tx (((p + j) + 1)) D false H (by omega)) (invokes Tryd.func22 rfl rfl) (fun w' hH => res_t1 rfl rfl) (fun w' hH => .inr (.inr ⟨(j + 1), (hB.trans (rp.B_line (by clear S H hB; grind))), rfl, by omega, hH.tail⟩))
            · skip
              have c199 := bc199
              have c199 := ne_of_beq_false c199
              refine l_on S rfl rfl rfl rfl bc199 ?_
              refine l_pure S (p_move rfl) rfl rfl rfl ?_; clear S a; intro a S
              refine l_on S rfl rfl rfl rfl bc199 ?_
              refine l_call S rfl rfl Tryd.func24 rfl rfl (sp.isLine_ wb _ _ _ kd H) rfl rfl rfl ?_
              rintro e w ⟨rfl, hH⟩
              refine ⟨_, rfl, ?_⟩; clear S a; intro a S
              clear H; have H := hH; clear hH
              refine l_pure S (p_pick_f rfl bc199 rfl) rfl rfl rfl ?_; clear S a; intro a S
              refine l_pure S (p_assign rfl) rfl rfl rfl ?_; clear S a; intro a S
              refine l_nil ?_
              refine e_then ?_
              refine c_cond S rfl (fun bc204 => ?_) (fun bc204 => ?_)
              · skip
                have c204 := bc204
                refine wp_seq ?_
                refine c_region ?_
                refine l_pure S (p_assign rfl) rfl rfl rfl ?_; clear S a; intro a S
                refine l_nil ?_
                refine e_then ?_
                refine wp_ret ?_
                refine e_in_ret ?_
                refine e_then_ret ?_
                -- B {'rk': 'line'} odd=False ok=True pos=((p + j) + 1) tests=c5, c129, c132, c135, c199, c204
                exact r_doorR S (clo_ wb _ _ _ gx gt tx (((p + j) + 1)) D false H (by omega)) (invokes Tryd.func22 rfl rfl) (fun w' hH => res_t1 rfl rfl) (fun w' hH => .inr (.inr ⟨(j + 1), (hB.trans (rp.B_line (by clear S H hB; grind))), rfl, by omega, hH.tail⟩))
              · skip
                have c204 := bc204
                refine wp_seq ?_
                refine c_region ?_
                refine l_pure S (p_move rfl) rfl rfl rfl ?_; clear S a; intro a S
                refine l_pure S (p_not rfl) rfl rfl rfl ?_; clear S a; intro a S
                refine l_pure S (p_move rfl) rfl rfl rfl ?_; clear S a; intro a S
                refine l_split (S.of 130 rfl) (fun bc207 => ?_) (fun bc207 => ?_)
                · skip
                  have c207 := bc207
                  replace c207 := not_eq_true_ c207
                  
                  refine l_on S rfl rfl rfl rfl bc207 ?_
                  refine l_pure S (p_move rfl) rfl rfl rfl ?_; clear S a; intro a S
                  refine l_on S rfl rfl rfl rfl bc207 ?_
                  refine l_call S rfl rfl Tryd.func25 rfl rfl (sp.isBlob_ wb _ _ _ kd H) rfl rfl rfl ?_
                  rintro e w ⟨rfl, hH⟩
                  refine ⟨_, rfl, ?_⟩; clear S a; intro a S
                  clear H; have H := hH; clear hH
                  refine l_on S rfl rfl rfl rfl bc207 ?_
                  refine l_pure S (p_not rfl) rfl rfl rfl ?_; clear S a; intro a S
                  refine l_pure S (p_pick_t rfl bc207 rfl) rfl rfl rfl ?_; clear S a; intro a S
                  refine l_pure S (p_assign rfl) rfl rfl rfl ?_; clear S a; intro a S
                  refine l_nil ?_
                  refine e_then ?_
                  refine c_cond S rfl (fun bc210 => ?_) (fun bc210 => ?_)
                  · skip
                    have c210 := bc210
                    replace c210 := not_eq_true_ c210
                    
                    refine wp_seq ?_
                    refine c_region ?_
                    refine l_pure S (p_assign rfl) rfl rfl rfl ?_; clear S a; intro a S
                    refine l_nil ?_
                    refine e_then ?_
                    refine wp_ret ?_
                    refine e_in_ret ?_
                    refine e_then_ret ?_
                    -- B {'rk': 'unk'} odd=False ok=False pos=((p + j) + 1) tests=c5, c129, c132, c135, c199, c204, c207, c210
                    exact r_doorR S (clo_ wb _ _ _ gx gt tx (((p + j) + 1)) D false H (by omega)) (invokes Tryd.func22 rfl rfl) (fun w' hH => res_t1 rfl rfl) (fun w' hH => .inr (.inl ⟨(hB.trans (rp.B_unk (by clear S H hB; grind) (by clear S H hB; grind))), rfl, ((p + j) + 1), hH.tail⟩))
                  · skip
                    have c210 := bc210
                    replace c210 := not_eq_false_ c210
                    
                    refine wp_seq ?_
                    refine c_region ?_
                    refine l_pure S (p_move rfl) rfl rfl rfl ?_; clear S a; intro a S
                    refine l_pure S (p_lens Tryd.underlying9 rfl) rfl rfl rfl ?_; clear S a; intro a S
                    refine l_pure S (p_eql rfl rfl) rfl rfl rfl ?_; clear S a; intro a S
                    refine l_pure S (p_move rfl) rfl rfl rfl ?_; clear S a; intro a S
                    refine l_split (S.of 139 rfl) (fun bc213 => ?_) (fun bc213 => ?_)
                    · skip
                      have c213 := bc213
                      have c213 := eq_of_beq c213
                      refine l_on S rfl rfl rfl rfl bc213 ?_
                      refine l_pure S (p_move rfl) rfl rfl rfl ?_; clear S a; intro a S
                      refine l_on S rfl rfl rfl rfl bc213 ?_
                      refine l_pure S (p_move rfl) rfl rfl rfl ?_; clear S a; intro a S
                      refine l_on S rfl rfl rfl rfl (not_eq_true_ bc207) ?_
                      refine l_pure S (p_move rfl) rfl rfl rfl ?_; clear S a; intro a S
                      refine l_on S rfl rfl rfl rfl (not_eq_true_ bc207) ?_
                      refine l_pure S (p_eql rfl rfl) rfl rfl rfl ?_; clear S a; intro a S
                      refine l_on S rfl rfl rfl rfl bc213 ?_
                      refine l_pure S (p_pick_f rfl (not_eq_true_ bc207) rfl) rfl rfl rfl ?_; clear S a; intro a S
                      refine l_pure S (p_pick_t rfl bc213 rfl) rfl rfl rfl ?_; clear S a; intro a S
                      refine l_pure S (p_assign rfl) rfl rfl rfl ?_; clear S a; intro a S
                      refine l_nil ?_
                      refine e_then ?_
                      refine c_cond S rfl (fun bc215 => ?_) (fun bc215 => ?_)
                      · skip
                        have c215 := bc215
                        have c215 := eq_of_beq c215
                        refine wp_seq ?_
                        refine c_region ?_
                        refine l_read S H (r_load rfl List.mem_cons_self rfl (fun w hc => ld1 ag27 hc)) rfl rfl rfl ?_; clear S a; intro a S
                        refine l_pure S (p_nilCheck rfl) rfl rfl rfl ?_; clear S a; intro a S
                        refine l_pure S (p_fieldAddr rfl (fun w => fa31_2 w _ _)) rfl rfl rfl ?_; clear S a; intro a S
                        refine l_store S H rfl rfl rfl (.there .here) (by first | decide | simp [Value.cells]) (fun w u hc hz => st1 sz4 rfl hc hz) rfl rfl ?_; clear S a H; intro w a H S
                        refine l_nil ?_
                        refine e_then ?_
                        refine wp_seq ?_
                        refine c_region ?_
                        refine l_pure S (p_assign rfl) rfl rfl rfl ?_; clear S a; intro a S
                        refine l_nil ?_
                        refine e_then ?_
                        refine wp_ret ?_
                        refine e_in_ret ?_
                        refine e_then_ret ?_
                        -- B {'rk': 'empty'} odd=True ok=False pos=((p + j) + 1) tests=c5, c129, c132, c135, c199, c204, c207, c210, c213, c215
                        exact r_doorR S (clo_ wb _ _ _ gx gt tx (((p + j) + 1)) D true H (by omega)) (invokes Tryd.func22 rfl rfl) (fun w' hH => res_t1 rfl rfl) (fun w' hH => .inl ⟨(hB.trans (rp.B_empty (by clear S H hB; grind) (by clear S H hB; grind) (by clear S H hB; grind))), rfl, ((p + j) + 1), hH.tail⟩)
                      · skip
                        have c215 := bc215
                        have c215 := ne_of_beq_false c215
                        refine wp_seq ?_
                        refine c_region ?_
                        refine l_pure S (p_move rfl) rfl rfl rfl ?_; clear S a; intro a S
                        refine l_pure S (p_move rfl) rfl rfl rfl ?_; clear S a; intro a S
                        refine l_on S rfl rfl rfl rfl (not_eq_true_ bc207) ?_
                        refine l_pure S (p_move rfl) rfl rfl rfl ?_; clear S a; intro a S
                        refine l_on S rfl rfl rfl rfl (not_eq_true_ bc207) ?_
                        refine l_pure S (p_eql rfl rfl) rfl rfl rfl ?_; clear S a; intro a S
                        refine l_pure S (p_pick_f rfl (not_eq_true_ bc207) rfl) rfl rfl rfl ?_; clear S a; intro a S
                        refine l_pure S (p_move rfl) rfl rfl rfl ?_; clear S a; intro a S
                        refine l_split (S.of 155 rfl) (fun bc218 => ?_) (fun bc218 => ?_)
                        · skip
                          have c218 := bc218
                          have c218 := eq_of_beq c218
                          refine l_on S rfl rfl rfl rfl bc218 ?_
                          refine l_pure S (p_move rfl) rfl rfl rfl ?_; clear S a; intro a S
                          refine l_on S rfl rfl rfl rfl bc218 ?_
                          refine l_pure S (p_index rfl rfl (fun w => ix_string Tryd.underlying9 (by omega) (by omega))) rfl rfl rfl ?_; clear S a; intro a S
                          refine l_on S rfl rfl rfl rfl bc218 ?_
                          refine l_pure S (p_eql rfl rfl) rfl rfl rfl ?_; clear S a; intro a S
                          refine l_pure S (p_pick_t rfl bc218 rfl) rfl rfl rfl ?_; clear S a; intro a S
                          refine l_pure S (p_assign rfl) rfl rfl rfl ?_; clear S a; intro a S
                          refine l_nil ?_
                          refine e_then ?_
                          refine c_cond S rfl (fun bc220 => ?_) (fun bc220 => ?_)
                          · skip
                            have c220 := bc220
                            have c220 := eq_of_beq c220
                            refine wp_seq ?_
                            refine c_region ?_
                            refine l_pure S (p_assign rfl) rfl rfl rfl ?_; clear S a; intro a S
                            refine l_nil ?_
                            refine e_then ?_
                            refine wp_ret ?_
                            refine e_in_ret ?_
                            refine e_then_ret ?_
                            -- B {'rk': 'q'} odd=False ok=True pos=((p + j) + 1) tests=c5, c129, c132, c135, c199, c204, c207, c210, c213, c215, c218, c220
                            exact r_doorR S (clo_ wb _ _ _ gx gt tx (((p + j) + 1)) D false H (by omega)) (invokes Tryd.func22 rfl rfl) (fun w' hH => res_t1 rfl rfl) (fun w' hH => .inr (.inr ⟨(j + 1), (hB.trans (rp.B_q (by clear S H hB; grind) (by clear S H hB; grind) (by clear S H hB; grind) (by clear S H hB; grind))), rfl, by omega, hH.tail⟩))
                          · skip
                            have c220 := bc220
                            have c220 := ne_of_beq_false c220
                            refine wp_skip ?_
                            refine e_in 2 ?_
                            refine e_then ?_
                            exact ⟨S.only ⟨rfl, rfl, rfl, rfl, rfl, rfl, trivial⟩, H, (by clear S H hB; unfold rp.NT; grind)⟩
                        · skip
                          have c218 := bc218
                          have c218 := ne_of_beq_false c218
                          refine l_off S rfl rfl rfl rfl bc218 rfl rfl ?_; clear S a; intro a S
                          refine l_off S rfl rfl rfl rfl bc218 rfl rfl ?_; clear S a; intro a S
                          refine l_off S rfl rfl rfl rfl bc218 rfl rfl ?_; clear S a; intro a S
                          refine l_pure S (p_pick_f rfl bc218 rfl) rfl rfl rfl ?_; clear S a; intro a S
                          refine l_pure S (p_assign rfl) rfl rfl rfl ?_; clear S a; intro a S
                          refine l_nil ?_
                          refine e_then ?_
                          refine c_cond (b := false) S rfl (fun h => by cases h) (fun _ => ?_)
                          refine wp_skip ?_
                          refine e_in 2 ?_
                          refine e_then ?_
                          exact ⟨S.only ⟨rfl, rfl, rfl, rfl, rfl, rfl, trivial⟩, H, (by clear S H hB; unfold rp.NT; grind)⟩
                    · skip
                      have c213 := bc213
                      have c213 := ne_of_beq_false c213
                      refine l_off S rfl rfl rfl rfl bc213 rfl rfl ?_; clear S a; intro a S
                      refine l_off S rfl rfl rfl rfl bc213 rfl rfl ?_; clear S a; intro a S
                      refine l_offU S rfl rfl rfl rfl rfl rfl ?_; clear S a; intro a S
                      refine l_offU S rfl rfl rfl rfl rfl rfl ?_; clear S a; intro a S
                      refine l_off S rfl rfl rfl rfl bc213 rfl rfl ?_; clear S a; intro a S
                      refine l_pure S (p_pick_f rfl bc213 rfl) rfl rfl rfl ?_; clear S a; intro a S
                      refine l_pure S (p_assign rfl) rfl rfl rfl ?_; clear S a; intro a S
                      refine l_nil ?_
                      refine e_then ?_
                      refine c_cond (b := false) S rfl (fun h => by cases h) (fun _ => ?_)
                      refine wp_seq ?_
                      refine c_region ?_
                      refine l_pure S (p_move rfl) rfl rfl rfl ?_; clear S a; intro a S
                      refine l_pure S (p_move rfl) rfl rfl rfl ?_; clear S a; intro a S
                      refine l_on S rfl rfl rfl rfl (not_eq_true_ bc207) ?_
                      refine l_pure S (p_move rfl) rfl rfl rfl ?_; clear S a; intro a S
                      refine l_on S rfl rfl rfl rfl (not_eq_true_ bc207) ?_
                      refine l_pure S (p_eql rfl rfl) rfl rfl rfl ?_; clear S a; intro a S
                      refine l_pure S (p_pick_f rfl (not_eq_true_ bc207) rfl) rfl rfl rfl ?_; clear S a; intro a S
                      refine l_pure S (p_move rfl) rfl rfl rfl ?_; clear S a; intro a S
                      refine l_split (S.of 155 rfl) (fun bc227 => ?_) (fun bc227 => ?_)
                      · skip
                        have c227 := bc227
                        have c227 := eq_of_beq c227
                        refine l_on S rfl rfl rfl rfl bc227 ?_
                        refine l_pure S (p_move rfl) rfl rfl rfl ?_; clear S a; intro a S
                        refine l_on S rfl rfl rfl rfl bc227 ?_
                        refine l_pure S (p_index rfl rfl (fun w => ix_string Tryd.underlying9 (by omega) (by omega))) rfl rfl rfl ?_; clear S a; intro a S
                        refine l_on S rfl rfl rfl rfl bc227 ?_
                        refine l_pure S (p_eql rfl rfl) rfl rfl rfl ?_; clear S a; intro a S
                        refine l_pure S (p_pick_t rfl bc227 rfl) rfl rfl rfl ?_; clear S a; intro a S
                        refine l_pure S (p_assign rfl) rfl rfl rfl ?_; clear S a; intro a S
                        refine l_nil ?_
                        refine e_then ?_
                        refine c_cond S rfl (fun bc229 => ?_) (fun bc229 => ?_)
                        · skip
                          have c229 := bc229
                          have c229 := eq_of_beq c229
                          refine wp_seq ?_
                          refine c_region ?_
                          refine l_pure S (p_assign rfl) rfl rfl rfl ?_; clear S a; intro a S
                          refine l_nil ?_
                          refine e_then ?_
                          refine wp_ret ?_
                          refine e_in_ret ?_
                          refine e_then_ret ?_
                          -- B {'rk': 'q'} odd=False ok=True pos=((p + j) + 1) tests=c5, c129, c132, c135, c199, c204, c207, c210, c213, c227, c229
                          exact r_doorR S (clo_ wb _ _ _ gx gt tx (((p + j) + 1)) D false H (by omega)) (invokes Tryd.func22 rfl rfl) (fun w' hH => res_t1 rfl rfl) (fun w' hH => .inr (.inr ⟨(j + 1), (hB.trans (rp.B_q (by clear S H hB; grind) (by clear S H hB; grind) (by clear S H hB; grind) (by clear S H hB; grind))), rfl, by omega, hH.tail⟩))
                        · skip
                          have c229 := bc229
                          have c229 := ne_of_beq_false c229
                          refine wp_skip ?_
                          refine e_in 2 ?_
                          refine e_then ?_
                          exact ⟨S.only ⟨rfl, rfl, rfl, rfl, rfl, rfl, trivial⟩, H, (by clear S H hB; unfold rp.NT; grind)⟩
                      · skip
                        have c227 := bc227
                        have c227 := ne_of_beq_false c227
                        refine l_off S rfl rfl rfl rfl bc227 rfl rfl ?_; clear S a; intro a S
                        refine l_off S rfl rfl rfl rfl bc227 rfl rfl ?_; clear S a; intro a S
                        refine l_off S rfl rfl rfl rfl bc227 rfl rfl ?_; clear S a; intro a S
                        refine l_pure S (p_pick_f rfl bc227 rfl) rfl rfl rfl ?_; clear S a; intro a S
                        refine l_pure S (p_assign rfl) rfl rfl rfl ?_; clear S a; intro a S
                        refine l_nil ?_
                        refine e_then ?_
                        refine c_cond (b := false) S rfl (fun h => by cases h) (fun _ => ?_)
                        refine wp_skip ?_
                        refine e_in 2 ?_
                        refine e_then ?_
                        exact ⟨S.only ⟨rfl, rfl, rfl, rfl, rfl, rfl, trivial⟩, H, (by clear S H hB; unfold rp.NT; grind)⟩
                · skip
                  have c207 := bc207
                  replace c207 := not_eq_false_ c207
                  
                  refine l_off S rfl rfl rfl rfl bc207 rfl rfl ?_; clear S a; intro a S
                  refine l_off S rfl rfl rfl rfl bc207 rfl rfl ?_; clear S a; intro a S
                  refine l_off S rfl rfl rfl rfl bc207 rfl rfl ?_; clear S a; intro a S
                  refine l_pure S (p_pick_f rfl bc207 rfl) rfl rfl rfl ?_; clear S a; intro a S
                  refine l_pure S (p_assign rfl) rfl rfl rfl ?_; clear S a; intro a S
                  refine l_nil ?_
                  refine e_then ?_
                  refine c_cond (b := false) S rfl (fun h => by cases h) (fun _ => ?_)
                  refine wp_seq ?_
                  refine c_region ?_
                  refine l_pure S (p_move rfl) rfl rfl rfl ?_; clear S a; intro a S
                  refine l_pure S (p_lens Tryd.underlying9 rfl) rfl rfl rfl ?_; clear S a; intro a S
                  refine l_pure S (p_eql rfl rfl) rfl rfl rfl ?_; clear S a; intro a S
                  refine l_pure S (p_move rfl) rfl rfl rfl ?_; clear S a; intro a S
                  refine l_split (S.of 139 rfl) (fun bc236 => ?_) (fun bc236 => ?_)
                  · skip
                    have c236 := bc236
                    have c236 := eq_of_beq c236
                    refine l_on S rfl rfl rfl rfl bc236 ?_
                    refine l_pure S (p_move rfl) rfl rfl rfl ?_; clear S a; intro a S
                    refine l_on S rfl rfl rfl rfl bc236 ?_
                    refine l_pure S (p_move rfl) rfl rfl rfl ?_; clear S a; intro a S
                    refine l_off S rfl rfl rfl rfl (not_eq_false_ bc207) rfl rfl ?_; clear S a; intro a S
                    refine l_off S rfl rfl rfl rfl (not_eq_false_ bc207) rfl rfl ?_; clear S a; intro a S
                    refine l_on S rfl rfl rfl rfl bc236 ?_
                    refine l_pure S (p_pick_t rfl (not_eq_false_ bc207) rfl) rfl rfl rfl ?_; clear S a; intro a S
                    refine l_pure S (p_pick_t rfl bc236 rfl) rfl rfl rfl ?_; clear S a; intro a S
                    refine l_pure S (p_assign rfl) rfl rfl rfl ?_; clear S a; intro a S
                    refine l_nil ?_
                    refine e_then ?_
                    refine c_cond (b := true) S rfl (fun _ => ?_) (fun h => by cases h)
                    refine wp_seq ?_
                    refine c_region ?_
                    refine l_read S H (r_load rfl List.mem_cons_self rfl (fun w hc => ld1 ag27 hc)) rfl rfl rfl ?_; clear S a; intro a S
                    refine l_pure S (p_nilCheck rfl) rfl rfl rfl ?_; clear S a; intro a S
                    refine l_pure S (p_fieldAddr rfl (fun w => fa31_2 w _ _)) rfl rfl rfl ?_; clear S a; intro a S
                    refine l_store S H rfl rfl rfl (.there .here) (by first | decide | simp [Value.cells]) (fun w u hc hz => st1 sz4 rfl hc hz) rfl rfl ?_; clear S a H; intro w a H S
                    refine l_nil ?_
                    refine e_then ?_
                    refine wp_seq ?_
                    refine c_region ?_
                    refine l_pure S (p_assign rfl) rfl rfl rfl ?_; clear S a; intro a S
                    refine l_nil ?_
                    refine e_then ?_
                    refine wp_ret ?_
                    refine e_in_ret ?_
                    refine e_then_ret ?_
                    -- B {'rk': 'empty'} odd=True ok=False pos=((p + j) + 1) tests=c5, c129, c132, c135, c199, c204, c207, c236
                    exact r_doorR S (clo_ wb _ _ _ gx gt tx (((p + j) + 1)) D true H (by omega)) (invokes Tryd.func22 rfl rfl) (fun w' hH => res_t1 rfl rfl) (fun w' hH => .inl ⟨(hB.trans (rp.B_empty (by clear S H hB; grind) (by clear S H hB; grind) (by clear S H hB; grind))), rfl, ((p + j) + 1), hH.tail⟩)
                  · skip
                    have c236 := bc236
                    have c236 := ne_of_beq_false c236
                    refine l_off S rfl rfl rfl rfl bc236 rfl rfl ?_; clear S a; intro a S
                    refine l_off S rfl rfl rfl rfl bc236 rfl rfl ?_; clear S a; intro a S
                    refine l_offU S rfl rfl rfl rfl rfl rfl ?_; clear S a; intro a S
                    refine l_offU S rfl rfl rfl rfl rfl rfl ?_; clear S a; intro a S
                    refine l_off S rfl rfl rfl rfl bc236 rfl rfl ?_; clear S a; intro a S
                    refine l_pure S (p_pick_f rfl bc236 rfl) rfl rfl rfl ?_; clear S a; intro a S
                    refine l_pure S (p_assign rfl) rfl rfl rfl ?_; clear S a; intro a S
                    refine l_nil ?_
                    refine e_then ?_
                    refine c_cond (b := false) S rfl (fun h => by cases h) (fun _ => ?_)
                    refine wp_seq ?_
                    refine c_region ?_
                    refine l_pure S (p_move rfl) rfl rfl rfl ?_; clear S a; intro a S
                    refine l_pure S (p_move rfl) rfl rfl rfl ?_; clear S a; intro a S
                    refine l_off S rfl rfl rfl rfl (not_eq_false_ bc207) rfl rfl ?_; clear S a; intro a S
                    refine l_off S rfl rfl rfl rfl (not_eq_false_ bc207) rfl rfl ?_; clear S a; intro a S
                    refine l_pure S (p_pick_t rfl (not_eq_false_ bc207) rfl) rfl rfl rfl ?_; clear S a; intro a S
                    refine l_pure S (p_move rfl) rfl rfl rfl ?_; clear S a; intro a S
                    refine l_on S rfl rfl rfl rfl rfl ?_
                    refine l_pure S (p_move rfl) rfl rfl rfl ?_; clear S a; intro a S
                    refine l_on S rfl rfl rfl rfl rfl ?_
                    refine l_pure S (p_index rfl rfl (fun w => ix_string Tryd.underlying9 (by omega) (by omega))) rfl rfl rfl ?_; clear S a; intro a S
                    refine l_on S rfl rfl rfl rfl rfl ?_
                    refine l_pure S (p_eql rfl rfl) rfl rfl rfl ?_; clear S a; intro a S
                    refine l_pure S (p_pick_t rfl rfl rfl) rfl rfl rfl ?_; clear S a; intro a S
                    refine l_pure S (p_assign rfl) rfl rfl rfl ?_; clear S a; intro a S
                    refine l_nil ?_
                    refine e_then ?_
                    refine c_cond S rfl (fun bc244 => ?_) (fun bc244 => ?_)
                    · skip
                      have c244 := bc244
                      have c244 := eq_of_beq c244
                      refine wp_seq ?_
                      refine c_region ?_
                      refine l_pure S (p_assign rfl) rfl rfl rfl ?_; clear S a; intro a S
                      refine l_nil ?_
                      refine e_then ?_
                      refine wp_ret ?_
                      refine e_in_ret ?_
                      refine e_then_ret ?_
                      -- B {'rk': 'q'} odd=False ok=True pos=((p + j) + 1) tests=c5, c129, c132, c135, c199, c204, c207, c236, c244
                      exact r_doorR S (clo_ wb _ _ _ gx gt tx (((p + j) + 1)) D false H (by omega)) (invokes Tryd.func22 rfl rfl) (fun w' hH => res_t1 rfl rfl) (fun w' hH => .inr (.inr ⟨(j + 1), (hB.trans (rp.B_q (by clear S H hB; grind) (by clear S H hB; grind) (by clear S H hB; grind) (by clear S H hB; grind))), rfl, by omega, hH.tail⟩))
                    · skip
                      have c244 := bc244
                      have c244 := ne_of_beq_false c244
                      refine wp_skip ?_
                      refine e_in 2 ?_
                      refine e_then ?_
                      exact ⟨S.only ⟨rfl, rfl, rfl, rfl, rfl, rfl, trivial⟩, H, (by clear S H hB; unfold rp.NT; grind)⟩
theorem raw_ : ∀ k, RawC k
  | 0 => fun wb w0 B L0 gt tx p D H hp hS hD => raw_zero wb w0 B L0 gt tx p D H hp hS hD
  | k + 1 => fun wb w0 B L0 gt tx p D H hp hS hD => raw_step wb w0 B L0 gt tx p D k (raw_ k) H hp hS hD
end sr
end Go.Proofs.YtnmelglnkefjfaaDoor.rr
