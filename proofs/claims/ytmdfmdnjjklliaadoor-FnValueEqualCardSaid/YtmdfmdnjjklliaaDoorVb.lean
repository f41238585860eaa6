/- Values of a line: made, compared. -/
import Derived.Test.YtmdfmdnjjklliaaDoorVa
import Derived.Test.YtmdfmdnjjklliaaDoorUf
namespace Go.Proofs.YtmdfmdnjjklliaaDoor.ve
open Go.RowKit Go.Proofs.HHW Go.Proofs.YtmdfmdnjjklliaaDoorW.PrintWords
set_option linter.unusedVariables false
set_option linter.unusedSimpArgs false
namespace md
theorem ag2 : aggB Tryd.prog 2 = some false := by kernel_rfl
theorem ag22 : aggB Tryd.prog 22 = some false := by kernel_rfl
theorem ag23 : aggB Tryd.prog 23 = some false := by kernel_rfl
theorem ag25 : aggB Tryd.prog 25 = some true := by kernel_rfl
theorem ag3 : aggB Tryd.prog 3 = some false := by kernel_rfl
theorem ag33 : aggB Tryd.prog 33 = some false := by kernel_rfl
theorem ag36 : aggB Tryd.prog 36 = some true := by kernel_rfl
theorem ag4 : aggB Tryd.prog 4 = some false := by kernel_rfl
theorem ag9 : aggB Tryd.prog 9 = some false := by kernel_rfl
theorem fa25_0 (w : World) (g o : Nat) : (Instr.fieldAt 25 (.pointer (some ⟨g, o, none⟩)) 0).run Tryd.prog w = .ok (.pointer (some ⟨g, o + 0, none⟩)) w := by kernel_rfl
theorem fa25_1 (w : World) (g o : Nat) : (Instr.fieldAt 25 (.pointer (some ⟨g, o, none⟩)) 1).run Tryd.prog w = .ok (.pointer (some ⟨g, o + 1, none⟩)) w := by kernel_rfl
theorem fa25_2 (w : World) (g o : Nat) : (Instr.fieldAt 25 (.pointer (some ⟨g, o, none⟩)) 2).run Tryd.prog w = .ok (.pointer (some ⟨g, o + 2, none⟩)) w := by kernel_rfl
theorem fa25_3 (w : World) (g o : Nat) : (Instr.fieldAt 25 (.pointer (some ⟨g, o, none⟩)) 3).run Tryd.prog w = .ok (.pointer (some ⟨g, o + 3, none⟩)) w := by kernel_rfl
theorem fa25_4 (w : World) (g o : Nat) : (Instr.fieldAt 25 (.pointer (some ⟨g, o, none⟩)) 4).run Tryd.prog w = .ok (.pointer (some ⟨g, o + 4, none⟩)) w := by kernel_rfl
theorem fa25_5 (w : World) (g o : Nat) : (Instr.fieldAt 25 (.pointer (some ⟨g, o, none⟩)) 5).run Tryd.prog w = .ok (.pointer (some ⟨g, o + 5, none⟩)) w := by kernel_rfl
theorem fa36_0 (w : World) (g o : Nat) : (Instr.fieldAt 36 (.pointer (some ⟨g, o, none⟩)) 0).run Tryd.prog w = .ok (.pointer (some ⟨g, o + 0, none⟩)) w := by kernel_rfl
theorem fa36_1 (w : World) (g o : Nat) : (Instr.fieldAt 36 (.pointer (some ⟨g, o, none⟩)) 1).run Tryd.prog w = .ok (.pointer (some ⟨g, o + 1, none⟩)) w := by kernel_rfl
theorem sz2 : szB Tryd.prog 2 = some 1 := by kernel_rfl
theorem sz22 : szB Tryd.prog 22 = some 1 := by kernel_rfl
theorem sz23 : szB Tryd.prog 23 = some 1 := by kernel_rfl
theorem sz25 : szB Tryd.prog 25 = some 6 := by kernel_rfl
theorem sz36 : szB Tryd.prog 36 = some 3 := by kernel_rfl
theorem sz4 : szB Tryd.prog 4 = some 1 := by kernel_rfl
theorem sz9 : szB Tryd.prog 9 = some 1 := by kernel_rfl
theorem zv25 : zvB Tryd.prog 25 = some (.agg #[.int .i64 0, .string ⟨#[]⟩, .int .i64 0, .int .u64 0, .float .f64 0, .bool false]) := by kernel_rfl
theorem zv36 : zvB Tryd.prog 36 = some (.agg #[.int .u64 0, .slice none 0 0, .int .u8 0]) := by kernel_rfl
theorem bld25_0 (x0_0 : Int) : Tryd.prog.built 25 [(0, (.int .i64 x0_0))] = some #[.int .i64 x0_0, .string ⟨#[]⟩, .int .i64 0, .int .u64 0, .float .f64 0, .bool false] := by kernel_rfl
theorem bld36_  : Tryd.prog.built 36 [] = some #[.int .u64 0, .slice none 0 0, .int .u8 0] := by kernel_rfl
theorem float2_ (wb w0 : World) (B : Nat) (L0 : List (Nat × Obj)) (f : Nat) (hf : f < 18446744073709551616) (H : HH B wb w0 L0) : Calls Tryd.prog 16 #[.float .f64 f] w0 fun e w' => (fl.fin f = true ∧ e = .returned (.tuple #[.agg #[.int .u64 (f : Int), .slice none 0 0, .int .u8 4], .bool true]) ∧ HH B wb w' L0) ∨ (fl.fin f = false ∧ e = .returned (.tuple #[.agg #[.int .u64 0, .slice none 0 0, .int .u8 0], .bool false]) ∧ HH B wb w' L0) := sm.float_ wb w0 B L0 f hf H
theorem value_ (wb w0 : World) (B : Nat) (L0 : List (Nat × Obj)) (k : Int) (s : ByteArray) (n u : Int) (f : Nat) (b : Bool) (H : HH B wb w0 L0) (hs : s.size ≤ 2147483647) (hf : f < 18446744073709551616) (hT : ∀ w (L : List (Nat × Obj)), HH B wb w L → Lib.Utf8Tabs (Tryd.laysValid_ren.g 3) (Tryd.laysValid_ren.g 4) w) : Calls Tryd.prog 10 #[.agg #[.int .i64 k, .string s, .int .i64 n, .int .u64 u, .float .f64 f, .bool b]] w0 fun e w' => ∃ N A l c K ow, e = .returned (.tuple #[.agg #[.int .u64 N, .slice A l.length c, .int .u8 K], .bool (vp.can k s f)]) ∧ OwnB 5 (.slice A l.length c) l ow ∧ (vp.can k s f = true → vp.Rel k s n u f b N l K) ∧ HH B wb w' (ow ++ L0) := by
  refine c_enter (args := [.agg #[.int .i64 k, .string s, .int .i64 n, .int .u64 u, .float .f64 f, .bool b]]) (k := 35) Tryd.func10 rfl rfl rfl (fun a S => ?_)
  refine wp_seq ?_
  refine c_region ?_
  refine l_box (cs := #[.int .i64 k, .string s, .int .i64 n, .int .u64 u, .float .f64 f, .bool b]) S H rfl rfl (fun w => bx) rfl rfl rfl ?_; clear S a H; intro g1 w a H S
  refine l_alloc (cs := #[.int .u64 0, .slice none 0 0, .int .u8 0]) S H rfl (fun w => al zv36) rfl rfl rfl ?_; clear S a H; intro g2 w a H S
  refine l_pure S (p_assign rfl) rfl rfl rfl ?_; clear S a; intro a S
  refine l_nil ?_
  refine e_then ?_
  refine wp_seq ?_
  refine wp_seq ?_
  refine c_region ?_
  refine l_pure S (p_fieldAddr rfl (fun w => fa25_0 w _ _)) rfl rfl rfl ?_; clear S a; intro a S
  refine l_read S H (r_load rfl (List.mem_cons_of_mem _ List.mem_cons_self) rfl (fun w hc => ld1 ag3 hc)) rfl rfl rfl ?_; clear S a; intro a S
  refine l_nil ?_
  refine e_then ?_
  refine wp_block ?_
  refine wp_seq ?_
  refine c_region ?_
  refine l_pure S (p_eql rfl rfl) rfl rfl rfl ?_; clear S a; intro a S
  refine l_pure S (p_assign rfl) rfl rfl rfl ?_; clear S a; intro a S
  refine l_nil ?_
  refine e_then ?_
  refine c_cond S rfl (fun c5 => ?_) (fun c5 => ?_)
  · skip
    have c5 := eq_of_beq c5
    have hk := c5
    refine wp_seq ?_
    refine c_region ?_
    refine l_pure S (p_fieldAddr rfl (fun w => fa25_1 w _ _)) rfl rfl rfl ?_; clear S a; intro a S
    refine l_read S H (r_load rfl (List.mem_cons_of_mem _ List.mem_cons_self) rfl (fun w hc => ld1 ag9 hc)) rfl rfl rfl ?_; clear S a; intro a S
    have hcon := sm.str_ wb _ _ _ s H hs hT
    refine l_call S rfl rfl Tryd.func13 rfl rfl (hcon) rfl rfl rfl ?_
    rintro e w ⟨A1, c1, l1, ow, rfl, how, hl, hH⟩
    refine ⟨_, rfl, ?_⟩; clear S a; intro a S
    clear H hcon; have H := hH; clear hH
    refine l_pure S (p_extract rfl rfl) rfl rfl rfl ?_; clear S a; intro a S
    refine l_pure S (p_extract rfl rfl) rfl rfl rfl ?_; clear S a; intro a S
    refine l_storeAll (vs := [.int .u64 0, .slice A1 l1.length c1, .int .u8 0]) S H rfl rfl rfl sz36 (Rep.skip ow .here) rfl (fun v hv => by simp only [List.mem_cons, List.not_mem_nil, or_false] at hv; rcases hv with rfl | rfl | rfl <;> rfl) rfl rfl ?_; clear S a H; intro w a H S
    refine l_pure S (p_assign rfl) rfl rfl rfl ?_; clear S a; intro a S
    refine l_nil ?_
    refine e_then ?_
    refine wp_ret ?_
    refine e_in_ret ?_
    refine e_then_ret ?_
    exact r_retct S rfl rfl rfl (lva (cs := [.int .u64 0, .slice A1 l1.length c1, .int .u8 0]) ag36 sz36 rfl H (List.mem_append_right _ List.mem_cons_self)) ⟨_, _, _, _, _, ow, by rw [show vp.can k s f = up.V s 0 from if_pos hk]; rfl, how, (fun h => by rw [vp.can, if_pos hk] at h; exact .inl ⟨hk, rfl, hl h, rfl⟩), H.sub (((List.sublist_cons_self _ _).trans (List.sublist_cons_self _ _)).append_left _)⟩
  · skip
    have c5 := ne_of_beq_false c5
    refine wp_seq ?_
    refine c_region ?_
    refine l_pure S (p_eql rfl rfl) rfl rfl rfl ?_; clear S a; intro a S
    refine l_pure S (p_assign rfl) rfl rfl rfl ?_; clear S a; intro a S
    refine l_nil ?_
    refine e_then ?_
    refine c_cond S rfl (fun c8 => ?_) (fun c8 => ?_)
    · skip
      have c8 := eq_of_beq c8
      have hk := c8
      refine wp_seq ?_
      refine c_region ?_
      refine l_pure S (p_fieldAddr rfl (fun w => fa25_2 w _ _)) rfl rfl rfl ?_; clear S a; intro a S
      refine l_read S H (r_load rfl (List.mem_cons_of_mem _ List.mem_cons_self) rfl (fun w hc => ld1 ag2 hc)) rfl rfl rfl ?_; clear S a; intro a S
      refine l_call S rfl rfl Tryd.func14 rfl rfl (sm.int_ wb _ _ _ n H) rfl rfl rfl ?_
      rintro e w ⟨rfl, hH⟩
      refine ⟨_, rfl, ?_⟩; clear S a; intro a S
      clear H; have H := hH; clear hH
      refine l_storeAll (vs := [.int .u64 (IntKind.u64.wrap n), .slice none 0 0, .int .u8 2]) S H rfl rfl rfl sz36 .here rfl (fun v hv => by simp only [List.mem_cons, List.not_mem_nil, or_false] at hv; rcases hv with rfl | rfl | rfl <;> rfl) rfl rfl ?_; clear S a H; intro w a H S
      refine l_pure S (p_assign rfl) rfl rfl rfl ?_; clear S a; intro a S
      refine l_nil ?_
      refine e_then ?_
      refine wp_ret ?_
      refine e_in_ret ?_
      refine e_then_ret ?_
      exact r_retct S rfl rfl rfl (lva (cs := [.int .u64 (IntKind.u64.wrap n), .slice none 0 0, .int .u8 2]) ag36 sz36 rfl H List.mem_cons_self) ⟨_, none, [], 0, _, [], by simp [vp.can, hk], ownB_nil _, (fun _ => .inr (.inl ⟨hk, rfl, rfl, rfl⟩)), H.tail.tail⟩
    · skip
      have c8 := ne_of_beq_false c8
      refine wp_seq ?_
      refine c_region ?_
      refine l_pure S (p_eql rfl rfl) rfl rfl rfl ?_; clear S a; intro a S
      refine l_pure S (p_assign rfl) rfl rfl rfl ?_; clear S a; intro a S
      refine l_nil ?_
      refine e_then ?_
      refine c_cond S rfl (fun c11 => ?_) (fun c11 => ?_)
      · skip
        have c11 := eq_of_beq c11
        have hk := c11
        refine wp_seq ?_
        refine c_region ?_
        refine l_pure S (p_fieldAddr rfl (fun w => fa25_3 w _ _)) rfl rfl rfl ?_; clear S a; intro a S
        refine l_read S H (r_load rfl (List.mem_cons_of_mem _ List.mem_cons_self) rfl (fun w hc => ld1 ag22 hc)) rfl rfl rfl ?_; clear S a; intro a S
        refine l_call S rfl rfl Tryd.func15 rfl rfl (sm.uint_ wb _ _ _ u H) rfl rfl rfl ?_
        rintro e w ⟨rfl, hH⟩
        refine ⟨_, rfl, ?_⟩; clear S a; intro a S
        clear H; have H := hH; clear hH
        refine l_storeAll (vs := [.int .u64 u, .slice none 0 0, .int .u8 3]) S H rfl rfl rfl sz36 .here rfl (fun v hv => by simp only [List.mem_cons, List.not_mem_nil, or_false] at hv; rcases hv with rfl | rfl | rfl <;> rfl) rfl rfl ?_; clear S a H; intro w a H S
        refine l_pure S (p_assign rfl) rfl rfl rfl ?_; clear S a; intro a S
        refine l_nil ?_
        refine e_then ?_
        refine wp_ret ?_
        refine e_in_ret ?_
        refine e_then_ret ?_
        exact r_retct S rfl rfl rfl (lva (cs := [.int .u64 u, .slice none 0 0, .int .u8 3]) ag36 sz36 rfl H List.mem_cons_self) ⟨_, none, [], 0, _, [], by simp [vp.can, hk], ownB_nil _, (fun _ => .inr (.inr (.inl ⟨hk, rfl, rfl, rfl⟩))), H.tail.tail⟩
      · skip
        have c11 := ne_of_beq_false c11
        refine wp_seq ?_
        refine c_region ?_
        refine l_pure S (p_eql rfl rfl) rfl rfl rfl ?_; clear S a; intro a S
        refine l_pure S (p_assign rfl) rfl rfl rfl ?_; clear S a; intro a S
        refine l_nil ?_
        refine e_then ?_
        refine c_cond S rfl (fun c14 => ?_) (fun c14 => ?_)
        · skip
          have c14 := eq_of_beq c14
          have hk := c14
          refine wp_seq ?_
          refine c_region ?_
          refine l_pure S (p_fieldAddr rfl (fun w => fa25_4 w _ _)) rfl rfl rfl ?_; clear S a; intro a S
          refine l_read S H (r_load rfl (List.mem_cons_of_mem _ List.mem_cons_self) rfl (fun w hc => ld1 ag23 hc)) rfl rfl rfl ?_; clear S a; intro a S
          refine l_call S rfl rfl Tryd.func16 rfl rfl (float2_ wb _ _ _ f hf H) rfl rfl rfl ?_
          rintro e w (⟨hfin, rfl, hH⟩ | ⟨hfin, rfl, hH⟩)
          · skip
            refine ⟨_, rfl, ?_⟩; clear S a; intro a S; clear H; have H := hH; clear hH
            refine l_pure S (p_extract rfl rfl) rfl rfl rfl ?_; clear S a; intro a S
            refine l_pure S (p_extract rfl rfl) rfl rfl rfl ?_; clear S a; intro a S
            refine l_storeAll (vs := [.int .u64 (f : Int), .slice none 0 0, .int .u8 4]) S H rfl rfl rfl sz36 .here rfl (fun v hv => by simp only [List.mem_cons, List.not_mem_nil, or_false] at hv; rcases hv with rfl | rfl | rfl <;> rfl) rfl rfl ?_; clear S a H; intro w a H S
            refine l_pure S (p_assign rfl) rfl rfl rfl ?_; clear S a; intro a S
            refine l_nil ?_
            refine e_then ?_
            refine wp_ret ?_
            refine e_in_ret ?_
            refine e_then_ret ?_
            exact r_retct S rfl rfl rfl (lva (cs := [.int .u64 (f : Int), .slice none 0 0, .int .u8 4]) ag36 sz36 rfl H List.mem_cons_self) ⟨_, none, [], 0, _, [], by simp [vp.can, hk, hfin], ownB_nil _, (fun h => .inr (.inr (.inr (.inl ⟨hk, rfl, rfl, rfl⟩)))), H.tail.tail⟩
          · skip
            refine ⟨_, rfl, ?_⟩; clear S a; intro a S; clear H; have H := hH; clear hH
            refine l_pure S (p_extract rfl rfl) rfl rfl rfl ?_; clear S a; intro a S
            refine l_pure S (p_extract rfl rfl) rfl rfl rfl ?_; clear S a; intro a S
            refine l_storeAll (vs := [.int .u64 0, .slice none 0 0, .int .u8 0]) S H rfl rfl rfl sz36 .here rfl (fun v hv => by simp only [List.mem_cons, List.not_mem_nil, or_false] at hv; rcases hv with rfl | rfl | rfl <;> rfl) rfl rfl ?_; clear S a H; intro w a H S
            refine l_pure S (p_assign rfl) rfl rfl rfl ?_; clear S a; intro a S
            refine l_nil ?_
            refine e_then ?_
            refine wp_ret ?_
            refine e_in_ret ?_
            refine e_then_ret ?_
            exact r_retct S rfl rfl rfl (lva (cs := [.int .u64 0, .slice none 0 0, .int .u8 0]) ag36 sz36 rfl H List.mem_cons_self) ⟨0, none, [], 0, 0, [], by simp [vp.can, *], ownB_nil _, (fun h => by simp [vp.can, *] at h), H.tail.tail⟩
        · skip
          have c14 := ne_of_beq_false c14
          refine wp_seq ?_
          refine c_region ?_
          refine l_pure S (p_eql rfl rfl) rfl rfl rfl ?_; clear S a; intro a S
          refine l_pure S (p_assign rfl) rfl rfl rfl ?_; clear S a; intro a S
          refine l_nil ?_
          refine e_then ?_
          refine c_cond S rfl (fun c18 => ?_) (fun c18 => ?_)
          · skip
            have c18 := eq_of_beq c18
            have hk := c18
            refine wp_seq ?_
            refine c_region ?_
            refine l_pure S (p_fieldAddr rfl (fun w => fa25_5 w _ _)) rfl rfl rfl ?_; clear S a; intro a S
            refine l_read S H (r_load rfl (List.mem_cons_of_mem _ List.mem_cons_self) rfl (fun w hc => ld1 ag4 hc)) rfl rfl rfl ?_; clear S a; intro a S
            refine l_call S rfl rfl Tryd.func17 rfl rfl (sm.bool_ wb _ _ _ b H) rfl rfl rfl ?_
            rintro e w ⟨rfl, hH⟩
            refine ⟨_, rfl, ?_⟩; clear S a; intro a S
            clear H; have H := hH; clear hH
            refine l_storeAll (vs := [.int .u64 (if b = true then 1 else 0), .slice none 0 0, .int .u8 5]) S H rfl rfl rfl sz36 .here rfl (fun v hv => by simp only [List.mem_cons, List.not_mem_nil, or_false] at hv; rcases hv with rfl | rfl | rfl <;> rfl) rfl rfl ?_; clear S a H; intro w a H S
            refine l_pure S (p_assign rfl) rfl rfl rfl ?_; clear S a; intro a S
            refine l_nil ?_
            refine e_then ?_
            refine wp_ret ?_
            refine e_in_ret ?_
            refine e_then_ret ?_
            exact r_retct S rfl rfl rfl (lva (cs := [.int .u64 (if b = true then 1 else 0), .slice none 0 0, .int .u8 5]) ag36 sz36 rfl H List.mem_cons_self) ⟨_, none, [], 0, _, [], by simp [vp.can, hk], ownB_nil _, (fun _ => .inr (.inr (.inr (.inr ⟨hk, rfl, rfl, rfl⟩)))), H.tail.tail⟩
          · skip
            have c18 := ne_of_beq_false c18
            refine wp_skip ?_
            refine e_in 0 ?_
            refine e_then ?_
            refine wp_seq ?_
            refine c_region ?_
            refine l_pure S (p_bld (ps := []) rfl (bld36_)) rfl rfl rfl ?_; clear S a; intro a S
            refine l_storeAll (vs := [.int .u64 0, .slice none 0 0, .int .u8 0]) S H rfl rfl rfl sz36 .here rfl (fun v hv => by simp only [List.mem_cons, List.not_mem_nil, or_false] at hv; rcases hv with rfl | rfl | rfl <;> rfl) rfl rfl ?_; clear S a H; intro w a H S
            refine l_pure S (p_assign rfl) rfl rfl rfl ?_; clear S a; intro a S
            refine l_nil ?_
            refine e_then ?_
            refine wp_ret ?_
            exact r_retct S rfl rfl rfl (lva (cs := [.int .u64 0, .slice none 0 0, .int .u8 0]) ag36 sz36 rfl H List.mem_cons_self) ⟨0, none, [], 0, 0, [], by simp [vp.can, *], ownB_nil _, (fun h => by simp [vp.can, *] at h), H.tail.tail⟩
theorem can_ (wb w0 : World) (B : Nat) (L0 : List (Nat × Obj)) (k : Int) (s : ByteArray) (n u : Int) (f : Nat) (b : Bool) (H : HH B wb w0 L0) (hs : s.size ≤ 2147483647) : Calls Tryd.prog 7 #[.agg #[.int .i64 k, .string s, .int .i64 n, .int .u64 u, .float .f64 f, .bool b]] w0 fun e w' => e = .returned (.bool (vp.can k s f)) ∧ HH B wb w' L0 := by
  refine c_enter (args := [.agg #[.int .i64 k, .string s, .int .i64 n, .int .u64 u, .float .f64 f, .bool b]]) (k := 30) Tryd.func7 rfl rfl rfl (fun a S => ?_)
  refine wp_seq ?_
  refine c_region ?_
  refine l_box (cs := #[.int .i64 k, .string s, .int .i64 n, .int .u64 u, .float .f64 f, .bool b]) S H rfl rfl (fun w => bx) rfl rfl rfl ?_; clear S a H; intro g1 w a H S
  refine l_pure S (p_assign rfl) rfl rfl rfl ?_; clear S a; intro a S
  refine l_nil ?_
  refine e_then ?_
  refine wp_seq ?_
  refine wp_seq ?_
  refine c_region ?_
  refine l_pure S (p_fieldAddr rfl (fun w => fa25_0 w _ _)) rfl rfl rfl ?_; clear S a; intro a S
  refine l_read S H (r_load rfl List.mem_cons_self rfl (fun w hc => ld1 ag3 hc)) rfl rfl rfl ?_; clear S a; intro a S
  refine l_nil ?_
  refine e_then ?_
  refine wp_block ?_
  refine wp_seq ?_
  refine c_region ?_
  refine l_pure S (p_eql rfl rfl) rfl rfl rfl ?_; clear S a; intro a S
  refine l_pure S (p_assign rfl) rfl rfl rfl ?_; clear S a; intro a S
  refine l_nil ?_
  refine e_then ?_
  refine c_cond S rfl (fun c4 => ?_) (fun c4 => ?_)
  · skip
    have c4 := eq_of_beq c4
    refine wp_seq ?_
    refine c_region ?_
    refine l_pure S (p_fieldAddr rfl (fun w => fa25_1 w _ _)) rfl rfl rfl ?_; clear S a; intro a S
    refine l_read S H (r_load rfl List.mem_cons_self rfl (fun w hc => ld1 ag9 hc)) rfl rfl rfl ?_; clear S a; intro a S
    refine l_call S rfl rfl Tryd.func12 rfl rfl (u8.utf8_ wb _ _ _ s H (by omega)) rfl rfl rfl ?_
    rintro e w ⟨rfl, hH⟩
    refine ⟨_, rfl, ?_⟩; clear S a; intro a S
    clear H; have H := hH; clear hH
    refine l_pure S (p_assign rfl) rfl rfl rfl ?_; clear S a; intro a S
    refine l_nil ?_
    refine e_then ?_
    refine wp_ret ?_
    refine e_in_ret ?_
    refine e_then_ret ?_
    exact r_ret1 S rfl rfl ⟨by simp [vp.can, *], H.tail⟩
  · skip
    have c4 := ne_of_beq_false c4
    refine wp_seq ?_
    refine c_region ?_
    refine l_pure S (p_eql rfl rfl) rfl rfl rfl ?_; clear S a; intro a S
    refine l_pure S (p_assign rfl) rfl rfl rfl ?_; clear S a; intro a S
    refine l_nil ?_
    refine e_then ?_
    refine c_cond S rfl (fun c7 => ?_) (fun c7 => ?_)
    · skip
      have c7 := eq_of_beq c7
      refine wp_seq ?_
      refine c_region ?_
      refine l_pure S (p_fieldAddr rfl (fun w => fa25_4 w _ _)) rfl rfl rfl ?_; clear S a; intro a S
      refine l_read S H (r_load rfl List.mem_cons_self rfl (fun w hc => ld1 ag23 hc)) rfl rfl rfl ?_; clear S a; intro a S
      refine l_pure S (p_fieldAddr rfl (fun w => fa25_4 w _ _)) rfl rfl rfl ?_; clear S a; intro a S
      refine l_read S H (r_load rfl List.mem_cons_self rfl (fun w hc => ld1 ag23 hc)) rfl rfl rfl ?_; clear S a; intro a S
      refine l_fsub S H rfl rfl rfl rfl rfl rfl ?_; clear S a H; intro r w a H hr S
      refine l_pure S (p_feql rfl rfl) rfl rfl rfl ?_; clear S a; intro a S
      refine l_pure S (p_assign rfl) rfl rfl rfl ?_; clear S a; intro a S
      refine l_nil ?_
      refine e_then ?_
      refine wp_ret ?_
      refine e_in_ret ?_
      refine e_then_ret ?_
      exact r_ret1 S rfl rfl ⟨by simp [vp.can, *], H.tail⟩
    · skip
      have c7 := ne_of_beq_false c7
      refine wp_skip ?_
      refine e_in 0 ?_
      refine e_then ?_
      refine wp_seq ?_
      refine c_region ?_
      refine l_pure S (p_fieldAddr rfl (fun w => fa25_0 w _ _)) rfl rfl rfl ?_; clear S a; intro a S
      refine l_read S H (r_load rfl List.mem_cons_self rfl (fun w hc => ld1 ag3 hc)) rfl rfl rfl ?_; clear S a; intro a S
      refine l_pure S (p_eql rfl rfl) rfl rfl rfl ?_; clear S a; intro a S
      refine l_pure S (p_move rfl) rfl rfl rfl ?_; clear S a; intro a S
      refine l_split (S.of 21 rfl) (fun bc10 => ?_) (fun bc10 => ?_)
      · skip
        have c10 := bc10
        have c10 := eq_of_beq c10
        refine l_off S rfl rfl rfl rfl bc10 rfl rfl ?_; clear S a; intro a S
        refine l_off S rfl rfl rfl rfl bc10 rfl rfl ?_; clear S a; intro a S
        refine l_off S rfl rfl rfl rfl bc10 rfl rfl ?_; clear S a; intro a S
        refine l_pure S (p_pick_t rfl bc10 rfl) rfl rfl rfl ?_; clear S a; intro a S
        refine l_pure S (p_move rfl) rfl rfl rfl ?_; clear S a; intro a S
        refine l_off S rfl rfl rfl rfl rfl rfl rfl ?_; clear S a; intro a S
        refine l_off S rfl rfl rfl rfl rfl rfl rfl ?_; clear S a; intro a S
        refine l_off S rfl rfl rfl rfl rfl rfl rfl ?_; clear S a; intro a S
        refine l_pure S (p_pick_t rfl rfl rfl) rfl rfl rfl ?_; clear S a; intro a S
        refine l_pure S (p_assign rfl) rfl rfl rfl ?_; clear S a; intro a S
        refine l_nil ?_
        refine e_then ?_
        refine wp_ret ?_
        exact r_ret1 S rfl rfl ⟨by simp [vp.can, *], H.tail⟩
      · skip
        have c10 := bc10
        have c10 := ne_of_beq_false c10
        refine l_on S rfl rfl rfl rfl bc10 ?_
        refine l_pure S (p_fieldAddr rfl (fun w => fa25_0 w _ _)) rfl rfl rfl ?_; clear S a; intro a S
        refine l_on S rfl rfl rfl rfl bc10 ?_
        refine l_read S H (r_load rfl List.mem_cons_self rfl (fun w hc => ld1 ag3 hc)) rfl rfl rfl ?_; clear S a; intro a S
        refine l_on S rfl rfl rfl rfl bc10 ?_
        refine l_pure S (p_eql rfl rfl) rfl rfl rfl ?_; clear S a; intro a S
        refine l_pure S (p_pick_f rfl bc10 rfl) rfl rfl rfl ?_; clear S a; intro a S
        refine l_pure S (p_move rfl) rfl rfl rfl ?_; clear S a; intro a S
        refine l_split (S.of 26 rfl) (fun bc14 => ?_) (fun bc14 => ?_)
        · skip
          have c14 := bc14
          have c14 := eq_of_beq c14
          refine l_off S rfl rfl rfl rfl bc14 rfl rfl ?_; clear S a; intro a S
          refine l_off S rfl rfl rfl rfl bc14 rfl rfl ?_; clear S a; intro a S
          refine l_off S rfl rfl rfl rfl bc14 rfl rfl ?_; clear S a; intro a S
          refine l_pure S (p_pick_t rfl bc14 rfl) rfl rfl rfl ?_; clear S a; intro a S
          refine l_pure S (p_assign rfl) rfl rfl rfl ?_; clear S a; intro a S
          refine l_nil ?_
          refine e_then ?_
          refine wp_ret ?_
          exact r_ret1 S rfl rfl ⟨by simp [vp.can, *], H.tail⟩
        · skip
          have c14 := bc14
          have c14 := ne_of_beq_false c14
          refine l_on S rfl rfl rfl rfl bc14 ?_
          refine l_pure S (p_fieldAddr rfl (fun w => fa25_0 w _ _)) rfl rfl rfl ?_; clear S a; intro a S
          refine l_on S rfl rfl rfl rfl bc14 ?_
          refine l_read S H (r_load rfl List.mem_cons_self rfl (fun w hc => ld1 ag3 hc)) rfl rfl rfl ?_; clear S a; intro a S
          refine l_on S rfl rfl rfl rfl bc14 ?_
          refine l_pure S (p_eql rfl rfl) rfl rfl rfl ?_; clear S a; intro a S
          refine l_pure S (p_pick_f rfl bc14 rfl) rfl rfl rfl ?_; clear S a; intro a S
          refine l_pure S (p_assign rfl) rfl rfl rfl ?_; clear S a; intro a S
          refine l_nil ?_
          refine e_then ?_
          refine wp_ret ?_
          exact r_ret1 S rfl rfl ⟨by simp [vp.can, *], H.tail⟩
theorem plain_ (wb w0 : World) (B : Nat) (L0 : List (Nat × Obj)) (k : Int) (s : ByteArray) (n u : Int) (f : Nat) (b : Bool) (H : HH B wb w0 L0) : Calls Tryd.prog 8 #[.agg #[.int .i64 k, .string s, .int .i64 n, .int .u64 u, .float .f64 f, .bool b]] w0 fun e w' => e = .returned (.agg #[.int .i64 k, .string (vp.pS k s), .int .i64 (vp.pN k n), .int .u64 (vp.pU k u), .float .f64 (vp.pF k f), .bool (vp.pB k b)]) ∧ HH B wb w' L0 := by
  refine c_enter (args := [.agg #[.int .i64 k, .string s, .int .i64 n, .int .u64 u, .float .f64 f, .bool b]]) (k := 34) Tryd.func8 rfl rfl rfl (fun a S => ?_)
  refine wp_seq ?_
  refine c_region ?_
  refine l_box (cs := #[.int .i64 k, .string s, .int .i64 n, .int .u64 u, .float .f64 f, .bool b]) S H rfl rfl (fun w => bx) rfl rfl rfl ?_; clear S a H; intro g1 w a H S
  refine l_alloc (cs := #[.int .i64 0, .string ⟨#[]⟩, .int .i64 0, .int .u64 0, .float .f64 0, .bool false]) S H rfl (fun w => al zv25) rfl rfl rfl ?_; clear S a H; intro g2 w a H S
  refine l_nil ?_
  refine e_then ?_
  refine wp_seq ?_
  refine c_region ?_
  refine l_pure S (p_fieldAddr rfl (fun w => fa25_0 w _ _)) rfl rfl rfl ?_; clear S a; intro a S
  refine l_read S H (r_load rfl (List.mem_cons_of_mem _ List.mem_cons_self) rfl (fun w hc => ld1 ag3 hc)) rfl rfl rfl ?_; clear S a; intro a S
  refine l_pure S (p_bld (ps := [(0, .tmp 5)]) rfl (bld25_0 _)) rfl rfl rfl ?_; clear S a; intro a S
  refine l_alloc (cs := #[.int .i64 0, .string ⟨#[]⟩, .int .i64 0, .int .u64 0, .float .f64 0, .bool false]) S H rfl (fun w => al zv25) rfl rfl rfl ?_; clear S a H; intro g3 w a H S
  refine l_storeAll (vs := [.int .i64 k, .string ⟨#[]⟩, .int .i64 0, .int .u64 0, .float .f64 0, .bool false]) S H rfl rfl rfl sz25 .here rfl (fun v hv => by simp only [List.mem_cons, List.not_mem_nil, or_false] at hv; rcases hv with rfl | rfl | rfl | rfl | rfl | rfl <;> rfl) rfl rfl ?_; clear S a H; intro w a H S
  refine l_nil ?_
  refine e_then ?_
  refine wp_seq ?_
  refine wp_seq ?_
  refine c_region ?_
  refine l_pure S (p_fieldAddr rfl (fun w => fa25_0 w _ _)) rfl rfl rfl ?_; clear S a; intro a S
  refine l_read S H (r_load rfl (List.mem_cons_of_mem _ (List.mem_cons_of_mem _ List.mem_cons_self)) rfl (fun w hc => ld1 ag3 hc)) rfl rfl rfl ?_; clear S a; intro a S
  refine l_nil ?_
  refine e_then ?_
  refine wp_block ?_
  refine wp_seq ?_
  refine c_region ?_
  refine l_pure S (p_eql rfl rfl) rfl rfl rfl ?_; clear S a; intro a S
  refine l_pure S (p_assign rfl) rfl rfl rfl ?_; clear S a; intro a S
  refine l_nil ?_
  refine e_then ?_
  refine c_cond S rfl (fun c5 => ?_) (fun c5 => ?_)
  · skip
    have c5 := eq_of_beq c5
    refine c_region ?_
    refine l_pure S (p_fieldAddr rfl (fun w => fa25_1 w _ _)) rfl rfl rfl ?_; clear S a; intro a S
    refine l_read S H (r_load rfl (List.mem_cons_of_mem _ (List.mem_cons_of_mem _ List.mem_cons_self)) rfl (fun w hc => ld1 ag9 hc)) rfl rfl rfl ?_; clear S a; intro a S
    refine l_pure S (p_fieldAddr rfl (fun w => fa25_1 w _ _)) rfl rfl rfl ?_; clear S a; intro a S
    refine l_store S H rfl rfl rfl .here (by first | decide | simp [Value.cells]) (fun w u hc hz => st1 sz9 rfl hc hz) rfl rfl ?_; clear S a H; intro w a H S
    refine l_nil ?_
    refine e_in 0 ?_
    refine e_then ?_
    refine wp_seq ?_
    refine c_region ?_
    refine l_read S H (r_loadn (m := 6) (vs := [.int .i64 k, .string s, .int .i64 0, .int .u64 0, .float .f64 0, .bool false]) rfl List.mem_cons_self ag25 sz25 rfl rfl) rfl rfl rfl ?_; clear S a; intro a S
    refine l_storeAll (vs := [.int .i64 k, .string s, .int .i64 0, .int .u64 0, .float .f64 0, .bool false]) S H rfl rfl rfl sz25 (.there .here) rfl (fun v hv => by simp only [List.mem_cons, List.not_mem_nil, or_false] at hv; rcases hv with rfl | rfl | rfl | rfl | rfl | rfl <;> rfl) rfl rfl ?_; clear S a H; intro w a H S
    refine l_nil ?_
    refine e_then ?_
    refine wp_ret ?_
    exact r_retc1 S rfl rfl (lva (cs := [.int .i64 k, .string s, .int .i64 0, .int .u64 0, .float .f64 0, .bool false]) ag25 sz25 rfl H (List.mem_cons_of_mem _ List.mem_cons_self)) ⟨by simp [vp.pS, vp.pN, vp.pU, vp.pF, vp.pB, *], H.tail.tail.tail⟩
  · skip
    have c5 := ne_of_beq_false c5
    refine wp_seq ?_
    refine c_region ?_
    refine l_pure S (p_eql rfl rfl) rfl rfl rfl ?_; clear S a; intro a S
    refine l_pure S (p_assign rfl) rfl rfl rfl ?_; clear S a; intro a S
    refine l_nil ?_
    refine e_then ?_
    refine c_cond S rfl (fun c7 => ?_) (fun c7 => ?_)
    · skip
      have c7 := eq_of_beq c7
      refine c_region ?_
      refine l_pure S (p_fieldAddr rfl (fun w => fa25_2 w _ _)) rfl rfl rfl ?_; clear S a; intro a S
      refine l_read S H (r_load rfl (List.mem_cons_of_mem _ (List.mem_cons_of_mem _ List.mem_cons_self)) rfl (fun w hc => ld1 ag2 hc)) rfl rfl rfl ?_; clear S a; intro a S
      refine l_pure S (p_fieldAddr rfl (fun w => fa25_2 w _ _)) rfl rfl rfl ?_; clear S a; intro a S
      refine l_store S H rfl rfl rfl .here (by first | decide | simp [Value.cells]) (fun w u hc hz => st1 sz2 rfl hc hz) rfl rfl ?_; clear S a H; intro w a H S
      refine l_nil ?_
      refine e_in 0 ?_
      refine e_then ?_
      refine wp_seq ?_
      refine c_region ?_
      refine l_read S H (r_loadn (m := 6) (vs := [.int .i64 k, .string ⟨#[]⟩, .int .i64 n, .int .u64 0, .float .f64 0, .bool false]) rfl List.mem_cons_self ag25 sz25 rfl rfl) rfl rfl rfl ?_; clear S a; intro a S
      refine l_storeAll (vs := [.int .i64 k, .string ⟨#[]⟩, .int .i64 n, .int .u64 0, .float .f64 0, .bool false]) S H rfl rfl rfl sz25 (.there .here) rfl (fun v hv => by simp only [List.mem_cons, List.not_mem_nil, or_false] at hv; rcases hv with rfl | rfl | rfl | rfl | rfl | rfl <;> rfl) rfl rfl ?_; clear S a H; intro w a H S
      refine l_nil ?_
      refine e_then ?_
      refine wp_ret ?_
      exact r_retc1 S rfl rfl (lva (cs := [.int .i64 k, .string ⟨#[]⟩, .int .i64 n, .int .u64 0, .float .f64 0, .bool false]) ag25 sz25 rfl H (List.mem_cons_of_mem _ List.mem_cons_self)) ⟨by simp [vp.pS, vp.pN, vp.pU, vp.pF, vp.pB, *], H.tail.tail.tail⟩
    · skip
      have c7 := ne_of_beq_false c7
      refine wp_seq ?_
      refine c_region ?_
      refine l_pure S (p_eql rfl rfl) rfl rfl rfl ?_; clear S a; intro a S
      refine l_pure S (p_assign rfl) rfl rfl rfl ?_; clear S a; intro a S
      refine l_nil ?_
      refine e_then ?_
      refine c_cond S rfl (fun c9 => ?_) (fun c9 => ?_)
      · skip
        have c9 := eq_of_beq c9
        refine c_region ?_
        refine l_pure S (p_fieldAddr rfl (fun w => fa25_3 w _ _)) rfl rfl rfl ?_; clear S a; intro a S
        refine l_read S H (r_load rfl (List.mem_cons_of_mem _ (List.mem_cons_of_mem _ List.mem_cons_self)) rfl (fun w hc => ld1 ag22 hc)) rfl rfl rfl ?_; clear S a; intro a S
        refine l_pure S (p_fieldAddr rfl (fun w => fa25_3 w _ _)) rfl rfl rfl ?_; clear S a; intro a S
        refine l_store S H rfl rfl rfl .here (by first | decide | simp [Value.cells]) (fun w u hc hz => st1 sz22 rfl hc hz) rfl rfl ?_; clear S a H; intro w a H S
        refine l_nil ?_
        refine e_in 0 ?_
        refine e_then ?_
        refine wp_seq ?_
        refine c_region ?_
        refine l_read S H (r_loadn (m := 6) (vs := [.int .i64 k, .string ⟨#[]⟩, .int .i64 0, .int .u64 u, .float .f64 0, .bool false]) rfl List.mem_cons_self ag25 sz25 rfl rfl) rfl rfl rfl ?_; clear S a; intro a S
        refine l_storeAll (vs := [.int .i64 k, .string ⟨#[]⟩, .int .i64 0, .int .u64 u, .float .f64 0, .bool false]) S H rfl rfl rfl sz25 (.there .here) rfl (fun v hv => by simp only [List.mem_cons, List.not_mem_nil, or_false] at hv; rcases hv with rfl | rfl | rfl | rfl | rfl | rfl <;> rfl) rfl rfl ?_; clear S a H; intro w a H S
        refine l_nil ?_
        refine e_then ?_
        refine wp_ret ?_
        exact r_retc1 S rfl rfl (lva (cs := [.int .i64 k, .string ⟨#[]⟩, .int .i64 0, .int .u64 u, .float .f64 0, .bool false]) ag25 sz25 rfl H (List.mem_cons_of_mem _ List.mem_cons_self)) ⟨by simp [vp.pS, vp.pN, vp.pU, vp.pF, vp.pB, *], H.tail.tail.tail⟩
      · skip
        have c9 := ne_of_beq_false c9
        refine wp_seq ?_
        refine c_region ?_
        refine l_pure S (p_eql rfl rfl) rfl rfl rfl ?_; clear S a; intro a S
        refine l_pure S (p_assign rfl) rfl rfl rfl ?_; clear S a; intro a S
        refine l_nil ?_
        refine e_then ?_
        refine c_cond S rfl (fun c11 => ?_) (fun c11 => ?_)
        · skip
          have c11 := eq_of_beq c11
          refine c_region ?_
          refine l_pure S (p_fieldAddr rfl (fun w => fa25_4 w _ _)) rfl rfl rfl ?_; clear S a; intro a S
          refine l_read S H (r_load rfl (List.mem_cons_of_mem _ (List.mem_cons_of_mem _ List.mem_cons_self)) rfl (fun w hc => ld1 ag23 hc)) rfl rfl rfl ?_; clear S a; intro a S
          refine l_pure S (p_fieldAddr rfl (fun w => fa25_4 w _ _)) rfl rfl rfl ?_; clear S a; intro a S
          refine l_store S H rfl rfl rfl .here (by first | decide | simp [Value.cells]) (fun w u hc hz => st1 sz23 rfl hc hz) rfl rfl ?_; clear S a H; intro w a H S
          refine l_nil ?_
          refine e_in 0 ?_
          refine e_then ?_
          refine wp_seq ?_
          refine c_region ?_
          refine l_read S H (r_loadn (m := 6) (vs := [.int .i64 k, .string ⟨#[]⟩, .int .i64 0, .int .u64 0, .float .f64 f, .bool false]) rfl List.mem_cons_self ag25 sz25 rfl rfl) rfl rfl rfl ?_; clear S a; intro a S
          refine l_storeAll (vs := [.int .i64 k, .string ⟨#[]⟩, .int .i64 0, .int .u64 0, .float .f64 f, .bool false]) S H rfl rfl rfl sz25 (.there .here) rfl (fun v hv => by simp only [List.mem_cons, List.not_mem_nil, or_false] at hv; rcases hv with rfl | rfl | rfl | rfl | rfl | rfl <;> rfl) rfl rfl ?_; clear S a H; intro w a H S
          refine l_nil ?_
          refine e_then ?_
          refine wp_ret ?_
          exact r_retc1 S rfl rfl (lva (cs := [.int .i64 k, .string ⟨#[]⟩, .int .i64 0, .int .u64 0, .float .f64 f, .bool false]) ag25 sz25 rfl H (List.mem_cons_of_mem _ List.mem_cons_self)) ⟨by simp [vp.pS, vp.pN, vp.pU, vp.pF, vp.pB, *], H.tail.tail.tail⟩
        · skip
          have c11 := ne_of_beq_false c11
          refine wp_seq ?_
          refine c_region ?_
          refine l_pure S (p_eql rfl rfl) rfl rfl rfl ?_; clear S a; intro a S
          refine l_pure S (p_assign rfl) rfl rfl rfl ?_; clear S a; intro a S
          refine l_nil ?_
          refine e_then ?_
          refine c_cond S rfl (fun c13 => ?_) (fun c13 => ?_)
          · skip
            have c13 := eq_of_beq c13
            refine c_region ?_
            refine l_pure S (p_fieldAddr rfl (fun w => fa25_5 w _ _)) rfl rfl rfl ?_; clear S a; intro a S
            refine l_read S H (r_load rfl (List.mem_cons_of_mem _ (List.mem_cons_of_mem _ List.mem_cons_self)) rfl (fun w hc => ld1 ag4 hc)) rfl rfl rfl ?_; clear S a; intro a S
            refine l_pure S (p_fieldAddr rfl (fun w => fa25_5 w _ _)) rfl rfl rfl ?_; clear S a; intro a S
            refine l_store S H rfl rfl rfl .here (by first | decide | simp [Value.cells]) (fun w u hc hz => st1 sz4 rfl hc hz) rfl rfl ?_; clear S a H; intro w a H S
            refine l_nil ?_
            refine e_in 0 ?_
            refine e_then ?_
            refine wp_seq ?_
            refine c_region ?_
            refine l_read S H (r_loadn (m := 6) (vs := [.int .i64 k, .string ⟨#[]⟩, .int .i64 0, .int .u64 0, .float .f64 0, .bool b]) rfl List.mem_cons_self ag25 sz25 rfl rfl) rfl rfl rfl ?_; clear S a; intro a S
            refine l_storeAll (vs := [.int .i64 k, .string ⟨#[]⟩, .int .i64 0, .int .u64 0, .float .f64 0, .bool b]) S H rfl rfl rfl sz25 (.there .here) rfl (fun v hv => by simp only [List.mem_cons, List.not_mem_nil, or_false] at hv; rcases hv with rfl | rfl | rfl | rfl | rfl | rfl <;> rfl) rfl rfl ?_; clear S a H; intro w a H S
            refine l_nil ?_
            refine e_then ?_
            refine wp_ret ?_
            exact r_retc1 S rfl rfl (lva (cs := [.int .i64 k, .string ⟨#[]⟩, .int .i64 0, .int .u64 0, .float .f64 0, .bool b]) ag25 sz25 rfl H (List.mem_cons_of_mem _ List.mem_cons_self)) ⟨by simp [vp.pS, vp.pN, vp.pU, vp.pF, vp.pB, *], H.tail.tail.tail⟩
          · skip
            have c13 := ne_of_beq_false c13
            refine wp_skip ?_
            refine e_in 0 ?_
            refine e_then ?_
            refine wp_seq ?_
            refine c_region ?_
            refine l_read S H (r_loadn (m := 6) (vs := [.int .i64 k, .string ⟨#[]⟩, .int .i64 0, .int .u64 0, .float .f64 0, .bool false]) rfl List.mem_cons_self ag25 sz25 rfl rfl) rfl rfl rfl ?_; clear S a; intro a S
            refine l_storeAll (vs := [.int .i64 k, .string ⟨#[]⟩, .int .i64 0, .int .u64 0, .float .f64 0, .bool false]) S H rfl rfl rfl sz25 (.there .here) rfl (fun v hv => by simp only [List.mem_cons, List.not_mem_nil, or_false] at hv; rcases hv with rfl | rfl | rfl | rfl | rfl | rfl <;> rfl) rfl rfl ?_; clear S a H; intro w a H S
            refine l_nil ?_
            refine e_then ?_
            refine wp_ret ?_
            exact r_retc1 S rfl rfl (lva (cs := [.int .i64 k, .string ⟨#[]⟩, .int .i64 0, .int .u64 0, .float .f64 0, .bool false]) ag25 sz25 rfl H (List.mem_cons_of_mem _ List.mem_cons_self)) ⟨by simp [vp.pS, vp.pN, vp.pU, vp.pF, vp.pB, *], H.tail.tail.tail⟩
theorem equal_ (wb w0 : World) (L0 : List (Nat × Obj)) (N1 : Int) (A1 : Option Addr) (l1 : List Int) (c1 : Nat) (K1 : Int) (N2 : Int) (A2 : Option Addr) (l2 : List Int) (c2 : Nat) (K2 : Int) (H : HH wb.heap.size wb w0 L0) (hC1 : (Kd.int .u8).C wb A1 l1.length l1) (hC2 : (Kd.int .u8).C wb A2 l2.length l2) : Calls Tryd.prog 11 #[.agg #[.int .u64 N1, .slice A1 l1.length c1, .int .u8 K1], .agg #[.int .u64 N2, .slice A2 l2.length c2, .int .u8 K2]] w0 fun e w' => e = .returned (.bool (vp.eqv N1 l1 K1 N2 l2 K2)) ∧ HH wb.heap.size wb w' L0 := by
  refine c_enter (args := [.agg #[.int .u64 N1, .slice A1 l1.length c1, .int .u8 K1], .agg #[.int .u64 N2, .slice A2 l2.length c2, .int .u8 K2]]) (k := 29) Tryd.func11 rfl rfl rfl (fun a S => ?_)
  refine wp_seq ?_
  refine c_region ?_
  refine l_box (cs := #[.int .u64 N1, .slice A1 l1.length c1, .int .u8 K1]) S H rfl rfl (fun w => bx) rfl rfl rfl ?_; clear S a H; intro g1 w a H S
  refine l_box (cs := #[.int .u64 N2, .slice A2 l2.length c2, .int .u8 K2]) S H rfl rfl (fun w => bx) rfl rfl rfl ?_; clear S a H; intro g2 w a H S
  refine l_pure S (p_assign rfl) rfl rfl rfl ?_; clear S a; intro a S
  refine l_nil ?_
  refine e_then ?_
  refine wp_seq ?_
  refine c_region ?_
  refine l_read S H (r_loadn (m := 3) (vs := [.int .u64 N1, .slice A1 l1.length c1, .int .u8 K1]) rfl (List.mem_cons_of_mem _ List.mem_cons_self) ag36 sz36 rfl rfl) rfl rfl rfl ?_; clear S a; intro a S
  refine l_call S rfl rfl Tryd.func18 rfl rfl (sm.kind_ wb _ _ _ N1 A1 l1 c1 K1 H) rfl rfl rfl ?_
  rintro e w ⟨rfl, hH⟩
  refine ⟨_, rfl, ?_⟩; clear S a; intro a S
  clear H; have H := hH; clear hH
  refine l_pure S (p_assign rfl) rfl rfl rfl ?_; clear S a; intro a S
  refine l_nil ?_
  refine e_then ?_
  refine wp_seq ?_
  refine wp_seq ?_
  refine c_region ?_
  refine l_read S H (r_loadn (m := 3) (vs := [.int .u64 N2, .slice A2 l2.length c2, .int .u8 K2]) rfl List.mem_cons_self ag36 sz36 rfl rfl) rfl rfl rfl ?_; clear S a; intro a S
  refine l_call S rfl rfl Tryd.func18 rfl rfl (sm.kind_ wb _ _ _ N2 A2 l2 c2 K2 H) rfl rfl rfl ?_
  rintro e w ⟨rfl, hH⟩
  refine ⟨_, rfl, ?_⟩; clear S a; intro a S
  clear H; have H := hH; clear hH
  refine l_pure S (p_move rfl) rfl rfl rfl ?_; clear S a; intro a S
  refine l_pure S (p_neq rfl rfl) rfl rfl rfl ?_; clear S a; intro a S
  refine l_nil ?_
  refine e_then ?_
  refine c_cond S rfl (fun c5 => ?_) (fun c5 => ?_)
  · skip
    have c5 := bne_iff_ne.1 c5
    refine wp_seq ?_
    refine c_region ?_
    refine l_pure S (p_assign rfl) rfl rfl rfl ?_; clear S a; intro a S
    refine l_nil ?_
    refine e_then ?_
    refine wp_ret ?_
    refine e_then_ret ?_
    exact r_ret1 S rfl rfl ⟨by simp_all [vp.eqv], H.tail.tail⟩
  · skip
    have c5 := bne_eq_false_iff_eq.1 c5
    refine wp_skip ?_
    refine e_then ?_
    refine wp_seq ?_
    refine wp_seq ?_
    refine c_region ?_
    refine l_pure S (p_move rfl) rfl rfl rfl ?_; clear S a; intro a S
    refine l_pure S (p_neq rfl rfl) rfl rfl rfl ?_; clear S a; intro a S
    refine l_nil ?_
    refine e_then ?_
    refine c_cond S rfl (fun c8 => ?_) (fun c8 => ?_)
    · skip
      have c8 := bne_iff_ne.1 c8
      refine wp_seq ?_
      refine c_region ?_
      refine l_pure S (p_fieldAddr rfl (fun w => fa36_0 w _ _)) rfl rfl rfl ?_; clear S a; intro a S
      refine l_read S H (r_load rfl (List.mem_cons_of_mem _ List.mem_cons_self) rfl (fun w hc => ld1 ag22 hc)) rfl rfl rfl ?_; clear S a; intro a S
      refine l_pure S (p_fieldAddr rfl (fun w => fa36_0 w _ _)) rfl rfl rfl ?_; clear S a; intro a S
      refine l_read S H (r_load rfl List.mem_cons_self rfl (fun w hc => ld1 ag22 hc)) rfl rfl rfl ?_; clear S a; intro a S
      refine l_pure S (p_eql rfl rfl) rfl rfl rfl ?_; clear S a; intro a S
      refine l_pure S (p_move rfl) rfl rfl rfl ?_; clear S a; intro a S
      refine l_split (S.of 19 rfl) (fun bc10 => ?_) (fun bc10 => ?_)
      · skip
        have c10 := bc10
        have c10 := eq_of_beq c10
        refine l_on S rfl rfl rfl rfl bc10 ?_
        refine l_pure S (p_fieldAddr rfl (fun w => fa36_1 w _ _)) rfl rfl rfl ?_; clear S a; intro a S
        refine l_on S rfl rfl rfl rfl bc10 ?_
        refine l_read S H (r_load rfl (List.mem_cons_of_mem _ List.mem_cons_self) rfl (fun w hc => ld1 ag33 hc)) rfl rfl rfl ?_; clear S a; intro a S
        refine l_on S rfl rfl rfl rfl bc10 ?_
        refine l_pure S (p_fieldAddr rfl (fun w => fa36_1 w _ _)) rfl rfl rfl ?_; clear S a; intro a S
        refine l_on S rfl rfl rfl rfl bc10 ?_
        refine l_read S H (r_load rfl List.mem_cons_self rfl (fun w hc => ld1 ag33 hc)) rfl rfl rfl ?_; clear S a; intro a S
        refine l_on S rfl rfl rfl rfl bc10 ?_
        refine l_call S rfl rfl Tryd.func19 rfl rfl (sm.beq_ wb _ _ A1 l1 c1 A2 l2 c2 H hC1 hC2) rfl rfl rfl ?_
        rintro e w ⟨rfl, hH⟩
        refine ⟨_, rfl, ?_⟩; clear S a; intro a S
        clear H; have H := hH; clear hH
        refine l_pure S (p_pick_t rfl bc10 rfl) rfl rfl rfl ?_; clear S a; intro a S
        refine l_pure S (p_assign rfl) rfl rfl rfl ?_; clear S a; intro a S
        refine l_nil ?_
        refine e_then ?_
        refine wp_ret ?_
        refine e_then_ret ?_
        exact r_ret1 S rfl rfl ⟨by simp_all [vp.eqv], H.tail.tail⟩
      · skip
        have c10 := bc10
        have c10 := ne_of_beq_false c10
        refine l_off S rfl rfl rfl rfl bc10 rfl rfl ?_; clear S a; intro a S
        refine l_off S rfl rfl rfl rfl bc10 rfl rfl ?_; clear S a; intro a S
        refine l_off S rfl rfl rfl rfl bc10 rfl rfl ?_; clear S a; intro a S
        refine l_off S rfl rfl rfl rfl bc10 rfl rfl ?_; clear S a; intro a S
        refine l_off S rfl rfl rfl rfl bc10 rfl rfl ?_; clear S a; intro a S
        refine l_pure S (p_pick_f rfl bc10 rfl) rfl rfl rfl ?_; clear S a; intro a S
        refine l_pure S (p_assign rfl) rfl rfl rfl ?_; clear S a; intro a S
        refine l_nil ?_
        refine e_then ?_
        refine wp_ret ?_
        refine e_then_ret ?_
        exact r_ret1 S rfl rfl ⟨by simp_all [vp.eqv], H.tail.tail⟩
    · skip
      have c8 := bne_eq_false_iff_eq.1 c8
      obtain rfl : K1 = 4 := vp.kd4 c8
      have h5 : vp.kd K2 = vp.kd 4 := by assumption
      obtain rfl : K2 = 4 := vp.kd4 (h5.trans rfl)
      refine wp_skip ?_
      refine e_then ?_
      refine wp_seq ?_
      refine d_start (id := 6) [] 6 #[false, false, false, false, false, false] H rfl rfl rfl (fun w H => ?_)
      refine d_read (i := 0) #[true, false, false, false, false, false] S H rfl (r_loadn (m := 3) (vs := [.int .u64 N1, .slice A1 l1.length c1, .int .u8 4]) rfl (List.mem_cons_of_mem _ List.mem_cons_self) ag36 sz36 rfl rfl) (wanted_none rfl) rfl rfl (by kernel_rfl) (fun _ _ _ h => h) ?_; clear S a; intro a S
      refine d_read (i := 2) #[true, false, true, false, false, false] S H rfl (r_loadn (m := 3) (vs := [.int .u64 N2, .slice A2 l2.length c2, .int .u8 4]) rfl List.mem_cons_self ag36 sz36 rfl rfl) (wanted_none rfl) rfl rfl (by kernel_rfl) (fun _ _ _ h => h) ?_; clear S a; intro a S
      refine d_call (i := 1) #[true, true, true, false, false, false] S rfl rfl rfl Tryd.func20 rfl rfl (sm.floatv_ wb _ _ _ N1 A1 l1.length c1 H) (wanted_none rfl) rfl rfl (by kernel_rfl) rfl ?_
      rintro e w ⟨rfl, hH⟩
      refine ⟨_, rfl, hH, ?_⟩; clear H; have H := hH; clear hH; clear S a; intro a S
      refine d_call (i := 3) #[true, true, true, true, false, false] S rfl rfl rfl Tryd.func20 rfl rfl (sm.floatv_ wb _ _ _ N2 A2 l2.length c2 H) (wanted_none rfl) rfl rfl (by kernel_rfl) rfl ?_
      rintro e w ⟨rfl, hH⟩
      refine ⟨_, rfl, hH, ?_⟩; clear H; have H := hH; clear hH; clear S a; intro a S
      refine d_pure (i := 4) #[true, true, true, true, true, false] S rfl (p_feql rfl rfl) (wanted_none rfl) rfl rfl (by kernel_rfl) (fun _ _ _ h => h) ?_; clear S a; intro a S
      refine d_pure (i := 5) #[true, true, true, true, true, true] S rfl (p_assign rfl) (wanted_none rfl) rfl rfl (by kernel_rfl) (fun _ _ _ h => h) ?_; clear S a; intro a S
      refine d_done (by kernel_rfl) ?_
      refine e_then ?_
      refine wp_ret ?_
      exact r_ret1 S rfl rfl ⟨by simp_all [vp.eqv], H.tail.tail⟩
end md
end Go.Proofs.YtmdfmdnjjklliaaDoor.ve
