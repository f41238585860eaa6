/- FnRawTells: the law, walked. -/
import Derived.Test.YtcjdadfiedoflaaWeigh
import Derived.Test.YtcjdadfiedoflaaWireWalk
import Derived.Test.YtcjdadfiedoflaaTells
import Derived.Test.YtcjdadfiedoflaaPFnRawTellsx2
namespace Go.Proofs.Ytcjdadfiedoflaa.tells.law
open Go.RowKit Go.Proofs.HHW Go.Proofs.YtcjdadfiedoflaaW.PrintWords PFnRawTells
set_option linter.unusedVariables false
set_option linter.unusedSimpArgs false
theorem ag4 : aggB Try.prog 4 = some false := by kernel_rfl
theorem ag41 : aggB Try.prog 41 = some false := by kernel_rfl
theorem ag43 : aggB Try.prog 43 = some true := by kernel_rfl
theorem ag5 : aggB Try.prog 5 = some false := by kernel_rfl
theorem ag9 : aggB Try.prog 9 = some false := by kernel_rfl
theorem fa43_0 (w : World) (g o : Nat) : (Instr.fieldAt 43 (.pointer (some ⟨g, o, none⟩)) 0).run Try.prog w = .ok (.pointer (some ⟨g, o + 0, none⟩)) w := by kernel_rfl
theorem fa43_1 (w : World) (g o : Nat) : (Instr.fieldAt 43 (.pointer (some ⟨g, o, none⟩)) 1).run Try.prog w = .ok (.pointer (some ⟨g, o + 1, none⟩)) w := by kernel_rfl
theorem fa43_3 (w : World) (g o : Nat) : (Instr.fieldAt 43 (.pointer (some ⟨g, o, none⟩)) 3).run Try.prog w = .ok (.pointer (some ⟨g, o + 3, none⟩)) w := by kernel_rfl
theorem fa43_4 (w : World) (g o : Nat) : (Instr.fieldAt 43 (.pointer (some ⟨g, o, none⟩)) 4).run Try.prog w = .ok (.pointer (some ⟨g, o + 4, none⟩)) w := by kernel_rfl
theorem sz43 : szB Try.prog 43 = some 7 := by kernel_rfl
theorem right34 (v : S43) (A3 : Option Addr) (cap3 : Nat) (A6 : Option Addr) (cap6 : Nat) (w0 : World) (hc3 : v.f3.length ≤ cap3) (hc6 : v.f6.length ≤ cap6) (h3 : k43.C w0 A3 v.f3.length v.f3) (h6 : Kd.string.C w0 A6 v.f6.length v.f6) (hok : ok 20 v) : Calls Try.prog 34 #[.agg #[.int .u8 v.f0, .string v.f1, .string v.f2, .slice A3 v.f3.length cap3, .bool v.f4, .bool v.f5, .slice A6 v.f6.length cap6], .int .i64 20, .int .i64 300] w0 fun e w' => e = .returned (.bool (decide (weighF 20 v 300 ≥ 0))) ∧ Below w0.heap.size w0 w' := by
  have h3 := Aside0.mk h3; have h6 := Aside0.mk h6
  have H := HH.start w0
  refine c_enter (args := [.agg #[.int .u8 v.f0, .string v.f1, .string v.f2, .slice A3 v.f3.length cap3, .bool v.f4, .bool v.f5, .slice A6 v.f6.length cap6], .int .i64 20, .int .i64 300]) (k := 9) Try.func34 rfl rfl rfl (fun a S => ?_)
  refine wp_seq ?_
  refine c_region ?_
  refine l_box (cs := _) S H rfl rfl (fun w => bx) rfl rfl rfl ?_; clear S a H; intro g1 w a H S
  refine l_pure S (p_assign rfl) rfl rfl rfl ?_; clear S a; intro a S
  refine l_nil ?_
  refine e_then ?_
  refine wp_seq ?_
  refine c_region ?_
  refine l_read S H (r_loadn (m := 7) rfl List.mem_cons_self ag43 sz43 rfl rfl) rfl rfl rfl ?_; clear S a; intro a S
  refine l_pure S (p_move rfl) rfl rfl rfl ?_; clear S a; intro a S
  refine l_pure S (p_move rfl) rfl rfl rfl ?_; clear S a; intro a S
  have hcon := weigh47 20 (by decide) v A3 cap3 A6 cap6 300 w hok (by decide) (C_old h3.out H) (C_old h6.out H)
  refine l_call S rfl rfl Try.func47 rfl rfl (hcon) rfl rfl rfl ?_
  rintro e w ⟨rfl, hb⟩
  refine ⟨_, rfl, ?_⟩; clear S a; intro a S
  replace H := H.later hb; clear hb hcon
  refine l_pure S (p_geq rfl rfl) rfl rfl rfl ?_; clear S a; intro a S
  refine l_pure S (p_assign rfl) rfl rfl rfl ?_; clear S a; intro a S
  refine l_nil ?_
  refine e_then ?_
  refine wp_ret ?_
  exact r_ret1 S rfl rfl ⟨rfl, H.below⟩
theorem whole19 (v : S43) (A3 : Option Addr) (cap3 : Nat) (A6 : Option Addr) (cap6 : Nat) (w0 : World) (hc3 : v.f3.length ≤ cap3) (hc6 : v.f6.length ≤ cap6) (h3 : k43.C w0 A3 v.f3.length v.f3) (h6 : Kd.string.C w0 A6 v.f6.length v.f6) (hok : ok 20 v) (k : Nat) (b : Bool) (hp : weighF 20 v 300 ≥ 0 → laws_plainly.f k v.f0 v.f1 v.f2 v.f3 v.f4 v.f5 v.f6 false = some b) : Calls Try.prog 19 #[.agg #[.int .u8 v.f0, .string v.f1, .string v.f2, .slice A3 v.f3.length cap3, .bool v.f4, .bool v.f5, .slice A6 v.f6.length cap6], .bool false] w0 fun e w' => e = .returned (.bool (decide (weighF 20 v 300 ≥ 0) && b)) ∧ Below w0.heap.size w0 w' := by
  have h3 := Aside0.mk h3; have h6 := Aside0.mk h6
  have H := HH.start w0
  refine c_enter (args := [.agg #[.int .u8 v.f0, .string v.f1, .string v.f2, .slice A3 v.f3.length cap3, .bool v.f4, .bool v.f5, .slice A6 v.f6.length cap6], .bool false]) (k := 10) Try.func19 rfl rfl rfl (fun a S => ?_)
  refine wp_seq ?_
  refine c_region ?_
  refine l_box (cs := _) S H rfl rfl (fun w => bx) rfl rfl rfl ?_; clear S a H; intro g1 w a H S
  refine l_pure S (p_assign rfl) rfl rfl rfl ?_; clear S a; intro a S
  refine l_nil ?_
  refine e_then ?_
  refine wp_seq ?_
  refine c_region ?_
  refine l_read S H (r_loadn (m := 7) rfl List.mem_cons_self ag43 sz43 rfl rfl) rfl rfl rfl ?_; clear S a; intro a S
  have hcon := right34 v A3 cap3 A6 cap6 w hc3 hc6 (C_old h3.out H) (C_old h6.out H) hok
  refine l_call S rfl rfl Try.func34 rfl rfl (hcon) rfl rfl rfl ?_
  rintro e w ⟨rfl, hb⟩
  refine ⟨_, rfl, ?_⟩; clear S a; intro a S
  replace H := H.later hb; clear hb hcon
  refine l_pure S (p_move rfl) rfl rfl rfl ?_; clear S a; intro a S
  refine l_split (S.of 7 rfl) (fun bc4 => ?_) (fun bc4 => ?_)
  · skip
    have c4 := bc4
    have c4 := of_decide_eq_true c4
    refine l_on S rfl rfl rfl rfl bc4 ?_
    refine l_read S H (r_loadn (m := 7) rfl List.mem_cons_self ag43 sz43 rfl rfl) rfl rfl rfl ?_; clear S a; intro a S
    refine l_on S rfl rfl rfl rfl bc4 ?_
    refine l_pure S (p_move rfl) rfl rfl rfl ?_; clear S a; intro a S
    refine l_on S rfl rfl rfl rfl bc4 ?_
    have hcon := laws_plainly.calls k v.f0 v.f1 v.f2 A3 cap3 v.f3 v.f4 v.f5 A6 cap6 v.f6 false b w (C_old h3.out H) hc3 (C_old h6.out H) hc6 (hp (by assumption))
    refine l_call S rfl rfl Try.func35 rfl rfl (hcon) rfl rfl rfl ?_
    rintro e w ⟨rfl, hb⟩
    refine ⟨_, rfl, ?_⟩; clear S a; intro a S
    replace H := H.later hb; clear hb hcon
    refine l_pure S (p_pick_t rfl bc4 rfl) rfl rfl rfl ?_; clear S a; intro a S
    refine l_pure S (p_assign rfl) rfl rfl rfl ?_; clear S a; intro a S
    refine l_nil ?_
    refine e_then ?_
    refine wp_ret ?_
    exact r_ret1 S rfl rfl ⟨by first | (rw [decide_eq_true (by assumption)]; rfl) | (rw [decide_eq_false (by assumption)]; rfl), H.below⟩
  · skip
    have c4 := bc4
    have c4 := of_decide_eq_false c4
    refine l_off S rfl rfl rfl rfl bc4 rfl rfl ?_; clear S a; intro a S
    refine l_off S rfl rfl rfl rfl bc4 rfl rfl ?_; clear S a; intro a S
    refine l_off S rfl rfl rfl rfl bc4 rfl rfl ?_; clear S a; intro a S
    refine l_pure S (p_pick_f rfl bc4 rfl) rfl rfl rfl ?_; clear S a; intro a S
    refine l_pure S (p_assign rfl) rfl rfl rfl ?_; clear S a; intro a S
    refine l_nil ?_
    refine e_then ?_
    refine wp_ret ?_
    exact r_ret1 S rfl rfl ⟨by first | (rw [decide_eq_true (by assumption)]; rfl) | (rw [decide_eq_false (by assumption)]; rfl), H.below⟩
def gd (v : S43) : Prop := lineOf v.f0 = true ∧ (v.f1.size : Int) > 1 ∧ ((v.f1.extract 0 (Int.toNat 2)).toList == (⟨#[45, 49]⟩ : ByteArray).toList) = true
theorem null_lit : t.nullF (ints ⟨#[95, 13, 10]⟩) = true := by decide +kernel
set_option maxHeartbeats 4000000 in
theorem law6 (v : S43) (A3 : Option Addr) (cap3 : Nat) (A6 : Option Addr) (cap6 : Nat) (w0 : World) (hc3 : v.f3.length ≤ cap3) (hc6 : v.f6.length ≤ cap6) (h3 : k43.C w0 A3 v.f3.length v.f3) (h6 : Kd.string.C w0 A6 v.f6.length v.f6) (hok : ok 20 v) (k : Nat) (b bf : Bool) (hf : laws_zzFits16.f k v.f0 v.f1 v.f2 v.f3 v.f4 v.f5 v.f6 = some bf) (hp : weighF 20 v 300 ≥ 0 → laws_plainly.f k v.f0 v.f1 v.f2 v.f3 v.f4 v.f5 v.f6 false = some b)
    (hl : (decide (weighF 20 v 300 ≥ 0) && b) = true → ¬ gd v → good 20 v ∧ (ints (wireF 20 v)).length ≤ 1000000 ∧ t.nullF (ints (wireF 20 v)) = (v.f4 || (v.f0 == 95)) ∧ t.emptyF (ints (wireF 20 v)) = ((manyOf v.f0).2 && !v.f4 && ((v.f3.length : Int) == 0)) ∧ t.streamF (ints (wireF 20 v)) = false) :
    Calls Try.prog 6 #[.agg #[.int .u8 v.f0, .string v.f1, .string v.f2, .slice A3 v.f3.length cap3, .bool v.f4, .bool v.f5, .slice A6 v.f6.length cap6]] w0 fun e w' => e = .returned (.bool true) ∧ Below w0.heap.size w0 w' := by
  have h3 := Aside0.mk h3; have h6 := Aside0.mk h6
  have H := HH.start w0
  refine c_enter (args := [.agg #[.int .u8 v.f0, .string v.f1, .string v.f2, .slice A3 v.f3.length cap3, .bool v.f4, .bool v.f5, .slice A6 v.f6.length cap6]]) (k := 90) Try.func6 rfl rfl rfl (fun a S => ?_)
  refine wp_seq ?_
  refine c_region ?_
  refine l_box (cs := _) S H rfl rfl (fun w => bx) rfl rfl rfl ?_; clear S a H; intro g1 w a H S
  refine l_pure S (p_assign rfl) rfl rfl rfl ?_; clear S a; intro a S
  refine l_nil ?_
  refine e_then ?_
  refine wp_seq ?_
  refine wp_seq ?_
  refine c_region ?_
  refine l_read S H (r_loadn (m := 7) rfl List.mem_cons_self ag43 sz43 rfl rfl) rfl rfl rfl ?_; clear S a; intro a S
  have hcon := laws_zzFits16.calls k v.f0 v.f1 v.f2 A3 cap3 v.f3 v.f4 v.f5 A6 cap6 v.f6 bf w (C_old h3.out H) hc3 (C_old h6.out H) hc6 hf
  refine l_call S rfl rfl Try.func18 rfl rfl (hcon) rfl rfl rfl ?_
  rintro e w ⟨rfl, hb⟩
  refine ⟨_, rfl, ?_⟩; clear S a; intro a S
  replace H := H.later hb; clear hb hcon
  refine l_pure S (p_not rfl) rfl rfl rfl ?_; clear S a; intro a S
  refine l_nil ?_
  refine e_then ?_
  refine c_cond S rfl (fun c5 => ?_) (fun c5 => ?_)
  · skip
    replace c5 := not_eq_true_ c5
    
    refine wp_seq ?_
    refine c_region ?_
    refine l_pure S (p_assign rfl) rfl rfl rfl ?_; clear S a; intro a S
    refine l_nil ?_
    refine e_then ?_
    refine wp_ret ?_
    refine e_then_ret ?_
    first | exact r_ret1 S rfl rfl ⟨rfl, H.below⟩ | exact r_ret1 S rfl rfl ⟨by rw [hs]; rfl, H.below⟩
  · skip
    replace c5 := not_eq_false_ c5
    
    refine wp_skip ?_
    refine e_then ?_
    refine wp_seq ?_
    refine wp_seq ?_
    refine c_region ?_
    refine l_read S H (r_loadn (m := 7) rfl List.mem_cons_self ag43 sz43 rfl rfl) rfl rfl rfl ?_; clear S a; intro a S
    have hcon := whole19 v A3 cap3 A6 cap6 w hc3 hc6 (C_old h3.out H) (C_old h6.out H) hok k b hp
    refine l_call S rfl rfl Try.func19 rfl rfl (hcon) rfl rfl rfl ?_
    rintro e w ⟨rfl, hb⟩
    refine ⟨_, rfl, ?_⟩; clear S a; intro a S
    replace H := H.later hb; clear hb hcon
    refine l_pure S (p_not rfl) rfl rfl rfl ?_; clear S a; intro a S
    refine l_pure S (p_move rfl) rfl rfl rfl ?_; clear S a; intro a S
    refine l_split (S.of 19 rfl) (fun bc9 => ?_) (fun bc9 => ?_)
    · skip
      have c9 := bc9
      replace c9 := not_eq_true_ c9
      
      refine l_off S rfl rfl rfl rfl bc9 rfl rfl ?_; clear S a; intro a S
      refine l_off S rfl rfl rfl rfl bc9 rfl rfl ?_; clear S a; intro a S
      refine l_off S rfl rfl rfl rfl bc9 rfl rfl ?_; clear S a; intro a S
      refine l_off S rfl rfl rfl rfl bc9 rfl rfl ?_; clear S a; intro a S
      refine l_offU S rfl rfl rfl rfl rfl rfl ?_; clear S a; intro a S
      refine l_offU S rfl rfl rfl rfl rfl rfl ?_; clear S a; intro a S
      refine l_offU S rfl rfl rfl rfl rfl rfl ?_; clear S a; intro a S
      refine l_offU S rfl rfl rfl rfl rfl rfl ?_; clear S a; intro a S
      refine l_off S rfl rfl rfl rfl bc9 rfl rfl ?_; clear S a; intro a S
      refine l_off S rfl rfl rfl rfl bc9 rfl rfl ?_; clear S a; intro a S
      refine l_offU S rfl rfl rfl rfl rfl rfl ?_; clear S a; intro a S
      refine l_offU S rfl rfl rfl rfl rfl rfl ?_; clear S a; intro a S
      refine l_offU S rfl rfl rfl rfl rfl rfl ?_; clear S a; intro a S
      refine l_offU S rfl rfl rfl rfl rfl rfl ?_; clear S a; intro a S
      refine l_off S rfl rfl rfl rfl bc9 rfl rfl ?_; clear S a; intro a S
      refine l_pure S (p_pick_t rfl bc9 rfl) rfl rfl rfl ?_; clear S a; intro a S
      refine l_nil ?_
      refine e_then ?_
      refine c_cond (b := true) S rfl (fun _ => ?_) (fun h => by cases h)
      refine wp_seq ?_
      refine c_region ?_
      refine l_pure S (p_assign rfl) rfl rfl rfl ?_; clear S a; intro a S
      refine l_nil ?_
      refine e_then ?_
      refine wp_ret ?_
      refine e_then_ret ?_
      first | exact r_ret1 S rfl rfl ⟨rfl, H.below⟩ | exact r_ret1 S rfl rfl ⟨by rw [hs]; rfl, H.below⟩
    · skip
      have c9 := bc9
      replace c9 := not_eq_false_ c9
      
      refine l_on S rfl rfl rfl rfl bc9 ?_
      refine l_pure S (p_fieldAddr rfl (fun w => fa43_0 w _ _)) rfl rfl rfl ?_; clear S a; intro a S
      refine l_on S rfl rfl rfl rfl bc9 ?_
      refine l_read S H (r_load rfl List.mem_cons_self rfl (fun w hc => ld1 ag5 hc)) rfl rfl rfl ?_; clear S a; intro a S
      refine l_on S rfl rfl rfl rfl bc9 ?_
      refine l_call S rfl rfl Try.func20 rfl rfl (PFnRawTells.spec_Line.calls v.f0 _ _ (line_f v.f0)) rfl rfl rfl ?_
      rintro e w ⟨rfl, hd⟩
      refine ⟨_, rfl, ?_⟩; clear S a; intro a S
      replace H := H.later hd.below; clear hd
      refine l_on S rfl rfl rfl rfl bc9 ?_
      refine l_pure S (p_move rfl) rfl rfl rfl ?_; clear S a; intro a S
      refine l_split (S.of 23 rfl) (fun bc14 => ?_) (fun bc14 => ?_)
      · skip
        refine l_on S rfl rfl rfl rfl bc14 ?_
        refine l_pure S (p_fieldAddr rfl (fun w => fa43_1 w _ _)) rfl rfl rfl ?_; clear S a; intro a S
        refine l_on S rfl rfl rfl rfl bc14 ?_
        refine l_read S H (r_load rfl List.mem_cons_self rfl (fun w hc => ld1 ag9 hc)) rfl rfl rfl ?_; clear S a; intro a S
        refine l_on S rfl rfl rfl rfl bc14 ?_
        refine l_pure S (p_builtin (xs := [_]) rfl (fun _ _ _ => rfl)) rfl rfl rfl ?_; clear S a; intro a S
        refine l_on S rfl rfl rfl rfl bc14 ?_
        refine l_pure S (p_gtr rfl rfl) rfl rfl rfl ?_; clear S a; intro a S
        refine l_on S rfl rfl rfl rfl bc9 ?_
        refine l_pure S (p_pick_t rfl bc14 rfl) rfl rfl rfl ?_; clear S a; intro a S
        refine l_on S rfl rfl rfl rfl bc9 ?_
        refine l_pure S (p_move rfl) rfl rfl rfl ?_; clear S a; intro a S
        refine l_split (S.of 29 rfl) (fun bc16 => ?_) (fun bc16 => ?_)
        · skip
          have c16 := bc16
          have c16 := of_decide_eq_true c16
          refine l_on S rfl rfl rfl rfl bc16 ?_
          refine l_pure S (p_fieldAddr rfl (fun w => fa43_1 w _ _)) rfl rfl rfl ?_; clear S a; intro a S
          refine l_on S rfl rfl rfl rfl bc16 ?_
          refine l_read S H (r_load rfl List.mem_cons_self rfl (fun w hc => ld1 ag9 hc)) rfl rfl rfl ?_; clear S a; intro a S
          refine l_on S rfl rfl rfl rfl bc16 ?_
          refine l_pure S (p_slice rfl (fun _ _ => o_none) (o_some rfl) (fun _ _ => o_none) (fun w => sl_string_hi Try.underlying9 (by decide) (by omega))) rfl rfl rfl ?_; clear S a; intro a S
          refine l_on S rfl rfl rfl rfl bc16 ?_
          refine l_pure S (p_seql rfl rfl) rfl rfl rfl ?_; clear S a; intro a S
          refine l_on S rfl rfl rfl rfl bc9 ?_
          refine l_pure S (p_pick_t rfl bc16 rfl) rfl rfl rfl ?_; clear S a; intro a S
          refine l_pure S (p_pick_f rfl bc9 rfl) rfl rfl rfl ?_; clear S a; intro a S
          refine l_nil ?_
          refine e_then ?_
          refine c_cond S rfl (fun c18 => ?_) (fun c18 => ?_)
          · skip
            refine wp_seq ?_
            refine c_region ?_
            refine l_pure S (p_assign rfl) rfl rfl rfl ?_; clear S a; intro a S
            refine l_nil ?_
            refine e_then ?_
            refine wp_ret ?_
            refine e_then_ret ?_
            first | exact r_ret1 S rfl rfl ⟨rfl, H.below⟩ | exact r_ret1 S rfl rfl ⟨by rw [hs]; rfl, H.below⟩
          · skip
            refine wp_skip ?_
            refine e_then ?_
            refine wp_seq ?_
            refine c_region ?_
            refine l_read S H (r_loadn (m := 7) rfl List.mem_cons_self ag43 sz43 rfl rfl) rfl rfl rfl ?_; clear S a; intro a S
            have hw_ : (decide (weighF 20 v 300 ≥ 0) && b) = true := by assumption
            obtain ⟨hgood, hlen, hn, he, hs⟩ := hl hw_ (by clear S; rintro ⟨g1_, g2_, g3_⟩; first | omega | exact absurd (g3_.symm.trans (show _ = false by assumption)) (by decide) | exact absurd (g1_.symm.trans (show _ = false by assumption)) (by decide))
            have hcon := wr.wire22 20 v A3 cap3 A6 cap6 w hgood (C_old h3.out H) (C_old h6.out H)
            refine l_call S rfl rfl Try.func22 rfl rfl (hcon) rfl rfl rfl ?_
            rintro e w ⟨rfl, hb⟩
            refine ⟨_, rfl, ?_⟩; clear S a; intro a S
            replace H := H.later hb; clear hb hcon
            have hcon := t.tells21 (wireF 20 v) w hlen
            refine l_call S rfl rfl Try.func21 rfl rfl (hcon) rfl rfl rfl ?_
            rintro e w ⟨rfl, hb⟩
            refine ⟨_, rfl, ?_⟩; clear S a; intro a S
            replace H := H.later hb; clear hb hcon
            refine l_pure S (p_move rfl) rfl rfl rfl ?_; clear S a; intro a S
            refine l_pure S (p_extract rfl rfl) rfl rfl rfl ?_; clear S a; intro a S
            refine l_pure S (p_extract rfl rfl) rfl rfl rfl ?_; clear S a; intro a S
            refine l_pure S (p_extract rfl rfl) rfl rfl rfl ?_; clear S a; intro a S
            refine l_pure S (p_extract rfl rfl) rfl rfl rfl ?_; clear S a; intro a S
            refine l_pure S (p_assign rfl) rfl rfl rfl ?_; clear S a; intro a S
            refine l_pure S (p_assign rfl) rfl rfl rfl ?_; clear S a; intro a S
            refine l_pure S (p_assign rfl) rfl rfl rfl ?_; clear S a; intro a S
            refine l_pure S (p_assign rfl) rfl rfl rfl ?_; clear S a; intro a S
            refine l_nil ?_
            refine e_then ?_
            refine wp_seq ?_
            refine c_region ?_
            have hcon := t.tells21 ⟨#[95, 13, 10]⟩ w (by decide)
            refine l_call S rfl rfl Try.func21 rfl rfl (hcon) rfl rfl rfl ?_
            rintro e w ⟨rfl, hb⟩
            refine ⟨_, rfl, ?_⟩; clear S a; intro a S
            replace H := H.later hb; clear hb hcon
            refine l_pure S (p_move rfl) rfl rfl rfl ?_; clear S a; intro a S
            refine l_pure S (p_extract rfl rfl) rfl rfl rfl ?_; clear S a; intro a S
            refine l_pure S (p_extract rfl rfl) rfl rfl rfl ?_; clear S a; intro a S
            refine l_pure S (p_extract rfl rfl) rfl rfl rfl ?_; clear S a; intro a S
            refine l_pure S (p_extract rfl rfl) rfl rfl rfl ?_; clear S a; intro a S
            refine l_pure S (p_assign rfl) rfl rfl rfl ?_; clear S a; intro a S
            refine l_pure S (p_assign rfl) rfl rfl rfl ?_; clear S a; intro a S
            refine l_pure S (p_assign rfl) rfl rfl rfl ?_; clear S a; intro a S
            refine l_pure S (p_assign rfl) rfl rfl rfl ?_; clear S a; intro a S
            refine l_nil ?_
            refine e_then ?_
            refine wp_seq ?_
            refine c_region ?_
            refine l_pure S (p_fieldAddr rfl (fun w => fa43_0 w _ _)) rfl rfl rfl ?_; clear S a; intro a S
            refine l_read S H (r_load rfl List.mem_cons_self rfl (fun w hc => ld1 ag5 hc)) rfl rfl rfl ?_; clear S a; intro a S
            refine l_call S rfl rfl Try.func23 rfl rfl (PFnRawTells.spec_Many.calls 5 v.f0 _ _ _ (many_f v.f0)) rfl rfl rfl ?_
            rintro e w ⟨rfl, hd⟩
            refine ⟨_, rfl, ?_⟩; clear S a; intro a S
            replace H := H.later hd.below; clear hd
            refine l_pure S (p_move rfl) rfl rfl rfl ?_; clear S a; intro a S
            refine l_pure S (p_extract rfl rfl) rfl rfl rfl ?_; clear S a; intro a S
            refine l_pure S (p_extract rfl rfl) rfl rfl rfl ?_; clear S a; intro a S
            refine l_pure S (p_assign rfl) rfl rfl rfl ?_; clear S a; intro a S
            refine l_pure S (p_assign rfl) rfl rfl rfl ?_; clear S a; intro a S
            refine l_nil ?_
            refine e_then ?_
            refine wp_seq ?_
            refine c_region ?_
            refine l_pure S (p_move rfl) rfl rfl rfl ?_; clear S a; intro a S
            refine l_pure S (p_move rfl) rfl rfl rfl ?_; clear S a; intro a S
            refine l_on S rfl rfl rfl rfl null_lit ?_
            refine l_pure S (p_move rfl) rfl rfl rfl ?_; clear S a; intro a S
            refine l_pure S (p_pick_t rfl null_lit rfl) rfl rfl rfl ?_; clear S a; intro a S
            refine l_pure S (p_move rfl) rfl rfl rfl ?_; clear S a; intro a S
            refine l_on S rfl rfl rfl rfl rfl ?_
            refine l_pure S (p_move rfl) rfl rfl rfl ?_; clear S a; intro a S
            refine l_on S rfl rfl rfl rfl rfl ?_
            refine l_pure S (p_fieldAddr rfl (fun w => fa43_4 w _ _)) rfl rfl rfl ?_; clear S a; intro a S
            refine l_on S rfl rfl rfl rfl rfl ?_
            refine l_read S H (r_load rfl List.mem_cons_self rfl (fun w hc => ld1 ag4 hc)) rfl rfl rfl ?_; clear S a; intro a S
            refine l_on S rfl rfl rfl rfl rfl ?_
            refine l_pure S (p_move rfl) rfl rfl rfl ?_; clear S a; intro a S
            refine l_split (S.of 64 rfl) (fun bc30 => ?_) (fun bc30 => ?_)
            · skip
              refine l_off S rfl rfl rfl rfl bc30 rfl rfl ?_; clear S a; intro a S
              refine l_off S rfl rfl rfl rfl bc30 rfl rfl ?_; clear S a; intro a S
              refine l_off S rfl rfl rfl rfl bc30 rfl rfl ?_; clear S a; intro a S
              refine l_on S rfl rfl rfl rfl rfl ?_
              refine l_pure S (p_pick_t rfl bc30 rfl) rfl rfl rfl ?_; clear S a; intro a S
              refine l_on S rfl rfl rfl rfl rfl ?_
              refine l_pure S (p_beql Try.underlying4 rfl rfl) rfl rfl rfl ?_; clear S a; intro a S
              refine l_pure S (p_pick_t rfl rfl rfl) rfl rfl rfl ?_; clear S a; intro a S
              refine l_pure S (p_move rfl) rfl rfl rfl ?_; clear S a; intro a S
              refine l_on S rfl rfl rfl rfl (by rw [hn]; simp_all) ?_
              refine l_pure S (p_move rfl) rfl rfl rfl ?_; clear S a; intro a S
              refine l_on S rfl rfl rfl rfl (by rw [hn]; simp_all) ?_
              refine l_pure S (p_move rfl) rfl rfl rfl ?_; clear S a; intro a S
              refine l_on S rfl rfl rfl rfl (by rw [hn]; simp_all) ?_
              refine l_pure S (p_move rfl) rfl rfl rfl ?_; clear S a; intro a S
              refine l_split (S.of 74 rfl) (fun bc33 => ?_) (fun bc33 => ?_)
              · skip
                refine l_on S rfl rfl rfl rfl bc33 ?_
                refine l_pure S (p_fieldAddr rfl (fun w => fa43_4 w _ _)) rfl rfl rfl ?_; clear S a; intro a S
                refine l_on S rfl rfl rfl rfl bc33 ?_
                refine l_read S H (r_load rfl List.mem_cons_self rfl (fun w hc => ld1 ag4 hc)) rfl rfl rfl ?_; clear S a; intro a S
                refine l_on S rfl rfl rfl rfl bc33 ?_
                refine l_pure S (p_not rfl) rfl rfl rfl ?_; clear S a; intro a S
                refine l_on S rfl rfl rfl rfl (by rw [hn]; simp_all) ?_
                refine l_pure S (p_pick_t rfl bc33 rfl) rfl rfl rfl ?_; clear S a; intro a S
                refine l_on S rfl rfl rfl rfl (by rw [hn]; simp_all) ?_
                refine l_pure S (p_move rfl) rfl rfl rfl ?_; clear S a; intro a S
                refine l_split (S.of 79 rfl) (fun bc36 => ?_) (fun bc36 => ?_)
                · skip
                  have c36 := bc36
                  replace c36 := not_eq_true_ c36
                  
                  refine l_on S rfl rfl rfl rfl bc36 ?_
                  refine l_pure S (p_fieldAddr rfl (fun w => fa43_3 w _ _)) rfl rfl rfl ?_; clear S a; intro a S
                  refine l_on S rfl rfl rfl rfl bc36 ?_
                  refine l_read S H (r_load rfl List.mem_cons_self rfl (fun w hc => ld1 ag41 hc)) rfl rfl rfl ?_; clear S a; intro a S
                  refine l_on S rfl rfl rfl rfl bc36 ?_
                  refine l_pure S (p_builtin (xs := [_]) rfl (fun _ _ _ => rfl)) rfl rfl rfl ?_; clear S a; intro a S
                  refine l_on S rfl rfl rfl rfl bc36 ?_
                  refine l_pure S (p_eql rfl rfl) rfl rfl rfl ?_; clear S a; intro a S
                  refine l_on S rfl rfl rfl rfl (by rw [hn]; simp_all) ?_
                  refine l_pure S (p_pick_t rfl bc36 rfl) rfl rfl rfl ?_; clear S a; intro a S
                  refine l_on S rfl rfl rfl rfl (by rw [hn]; simp_all) ?_
                  refine l_pure S (p_beql Try.underlying4 rfl rfl) rfl rfl rfl ?_; clear S a; intro a S
                  refine l_pure S (p_pick_t rfl (by rw [hn]; simp_all) rfl) rfl rfl rfl ?_; clear S a; intro a S
                  refine l_pure S (p_move rfl) rfl rfl rfl ?_; clear S a; intro a S
                  refine l_on S rfl rfl rfl rfl (by rw [he]; simp_all) ?_
                  refine l_pure S (p_move rfl) rfl rfl rfl ?_; clear S a; intro a S
                  refine l_on S rfl rfl rfl rfl (by rw [he]; simp_all) ?_
                  refine l_pure S (p_not rfl) rfl rfl rfl ?_; clear S a; intro a S
                  refine l_pure S (p_pick_t rfl (by rw [he]; simp_all) rfl) rfl rfl rfl ?_; clear S a; intro a S
                  refine l_pure S (p_assign rfl) rfl rfl rfl ?_; clear S a; intro a S
                  refine l_nil ?_
                  refine e_then ?_
                  refine wp_ret ?_
                  first | exact r_ret1 S rfl rfl ⟨rfl, H.below⟩ | exact r_ret1 S rfl rfl ⟨by rw [hs]; rfl, H.below⟩
                · skip
                  have c36 := bc36
                  replace c36 := not_eq_false_ c36
                  
                  refine l_off S rfl rfl rfl rfl bc36 rfl rfl ?_; clear S a; intro a S
                  refine l_off S rfl rfl rfl rfl bc36 rfl rfl ?_; clear S a; intro a S
                  refine l_off S rfl rfl rfl rfl bc36 rfl rfl ?_; clear S a; intro a S
                  refine l_off S rfl rfl rfl rfl bc36 rfl rfl ?_; clear S a; intro a S
                  refine l_on S rfl rfl rfl rfl (by rw [hn]; simp_all) ?_
                  refine l_pure S (p_pick_f rfl bc36 rfl) rfl rfl rfl ?_; clear S a; intro a S
                  refine l_on S rfl rfl rfl rfl (by rw [hn]; simp_all) ?_
                  refine l_pure S (p_beql Try.underlying4 rfl rfl) rfl rfl rfl ?_; clear S a; intro a S
                  refine l_pure S (p_pick_t rfl (by rw [hn]; simp_all) rfl) rfl rfl rfl ?_; clear S a; intro a S
                  refine l_pure S (p_move rfl) rfl rfl rfl ?_; clear S a; intro a S
                  refine l_on S rfl rfl rfl rfl (by rw [he]; simp_all) ?_
                  refine l_pure S (p_move rfl) rfl rfl rfl ?_; clear S a; intro a S
                  refine l_on S rfl rfl rfl rfl (by rw [he]; simp_all) ?_
                  refine l_pure S (p_not rfl) rfl rfl rfl ?_; clear S a; intro a S
                  refine l_pure S (p_pick_t rfl (by rw [he]; simp_all) rfl) rfl rfl rfl ?_; clear S a; intro a S
                  refine l_pure S (p_assign rfl) rfl rfl rfl ?_; clear S a; intro a S
                  refine l_nil ?_
                  refine e_then ?_
                  refine wp_ret ?_
                  first | exact r_ret1 S rfl rfl ⟨rfl, H.below⟩ | exact r_ret1 S rfl rfl ⟨by rw [hs]; rfl, H.below⟩
              · skip
                refine l_off S rfl rfl rfl rfl bc33 rfl rfl ?_; clear S a; intro a S
                refine l_off S rfl rfl rfl rfl bc33 rfl rfl ?_; clear S a; intro a S
                refine l_off S rfl rfl rfl rfl bc33 rfl rfl ?_; clear S a; intro a S
                refine l_on S rfl rfl rfl rfl (by rw [hn]; simp_all) ?_
                refine l_pure S (p_pick_f rfl bc33 rfl) rfl rfl rfl ?_; clear S a; intro a S
                refine l_on S rfl rfl rfl rfl (by rw [hn]; simp_all) ?_
                refine l_pure S (p_move rfl) rfl rfl rfl ?_; clear S a; intro a S
                refine l_off S rfl rfl rfl rfl rfl rfl rfl ?_; clear S a; intro a S
                refine l_off S rfl rfl rfl rfl rfl rfl rfl ?_; clear S a; intro a S
                refine l_off S rfl rfl rfl rfl rfl rfl rfl ?_; clear S a; intro a S
                refine l_off S rfl rfl rfl rfl rfl rfl rfl ?_; clear S a; intro a S
                refine l_on S rfl rfl rfl rfl (by rw [hn]; simp_all) ?_
                refine l_pure S (p_pick_f rfl rfl rfl) rfl rfl rfl ?_; clear S a; intro a S
                refine l_on S rfl rfl rfl rfl (by rw [hn]; simp_all) ?_
                refine l_pure S (p_beql Try.underlying4 rfl rfl) rfl rfl rfl ?_; clear S a; intro a S
                refine l_pure S (p_pick_t rfl (by rw [hn]; simp_all) rfl) rfl rfl rfl ?_; clear S a; intro a S
                refine l_pure S (p_move rfl) rfl rfl rfl ?_; clear S a; intro a S
                refine l_on S rfl rfl rfl rfl (by rw [he]; simp_all) ?_
                refine l_pure S (p_move rfl) rfl rfl rfl ?_; clear S a; intro a S
                refine l_on S rfl rfl rfl rfl (by rw [he]; simp_all) ?_
                refine l_pure S (p_not rfl) rfl rfl rfl ?_; clear S a; intro a S
                refine l_pure S (p_pick_t rfl (by rw [he]; simp_all) rfl) rfl rfl rfl ?_; clear S a; intro a S
                refine l_pure S (p_assign rfl) rfl rfl rfl ?_; clear S a; intro a S
                refine l_nil ?_
                refine e_then ?_
                refine wp_ret ?_
                first | exact r_ret1 S rfl rfl ⟨rfl, H.below⟩ | exact r_ret1 S rfl rfl ⟨by rw [hs]; rfl, H.below⟩
            · skip
              refine l_on S rfl rfl rfl rfl bc30 ?_
              refine l_pure S (p_fieldAddr rfl (fun w => fa43_0 w _ _)) rfl rfl rfl ?_; clear S a; intro a S
              refine l_on S rfl rfl rfl rfl bc30 ?_
              refine l_read S H (r_load rfl List.mem_cons_self rfl (fun w hc => ld1 ag5 hc)) rfl rfl rfl ?_; clear S a; intro a S
              refine l_on S rfl rfl rfl rfl bc30 ?_
              refine l_pure S (p_eql rfl rfl) rfl rfl rfl ?_; clear S a; intro a S
              refine l_on S rfl rfl rfl rfl rfl ?_
              refine l_pure S (p_pick_f rfl bc30 rfl) rfl rfl rfl ?_; clear S a; intro a S
              refine l_on S rfl rfl rfl rfl rfl ?_
              refine l_pure S (p_beql Try.underlying4 rfl rfl) rfl rfl rfl ?_; clear S a; intro a S
              refine l_pure S (p_pick_t rfl rfl rfl) rfl rfl rfl ?_; clear S a; intro a S
              refine l_pure S (p_move rfl) rfl rfl rfl ?_; clear S a; intro a S
              refine l_on S rfl rfl rfl rfl (by rw [hn]; simp_all) ?_
              refine l_pure S (p_move rfl) rfl rfl rfl ?_; clear S a; intro a S
              refine l_on S rfl rfl rfl rfl (by rw [hn]; simp_all) ?_
              refine l_pure S (p_move rfl) rfl rfl rfl ?_; clear S a; intro a S
              refine l_on S rfl rfl rfl rfl (by rw [hn]; simp_all) ?_
              refine l_pure S (p_move rfl) rfl rfl rfl ?_; clear S a; intro a S
              refine l_split (S.of 74 rfl) (fun bc49 => ?_) (fun bc49 => ?_)
              · skip
                refine l_on S rfl rfl rfl rfl bc49 ?_
                refine l_pure S (p_fieldAddr rfl (fun w => fa43_4 w _ _)) rfl rfl rfl ?_; clear S a; intro a S
                refine l_on S rfl rfl rfl rfl bc49 ?_
                refine l_read S H (r_load rfl List.mem_cons_self rfl (fun w hc => ld1 ag4 hc)) rfl rfl rfl ?_; clear S a; intro a S
                refine l_on S rfl rfl rfl rfl bc49 ?_
                refine l_pure S (p_not rfl) rfl rfl rfl ?_; clear S a; intro a S
                refine l_on S rfl rfl rfl rfl (by rw [hn]; simp_all) ?_
                refine l_pure S (p_pick_t rfl bc49 rfl) rfl rfl rfl ?_; clear S a; intro a S
                refine l_on S rfl rfl rfl rfl (by rw [hn]; simp_all) ?_
                refine l_pure S (p_move rfl) rfl rfl rfl ?_; clear S a; intro a S
                refine l_split (S.of 79 rfl) (fun bc52 => ?_) (fun bc52 => ?_)
                · skip
                  have c52 := bc52
                  replace c52 := not_eq_true_ c52
                  
                  refine l_on S rfl rfl rfl rfl bc52 ?_
                  refine l_pure S (p_fieldAddr rfl (fun w => fa43_3 w _ _)) rfl rfl rfl ?_; clear S a; intro a S
                  refine l_on S rfl rfl rfl rfl bc52 ?_
                  refine l_read S H (r_load rfl List.mem_cons_self rfl (fun w hc => ld1 ag41 hc)) rfl rfl rfl ?_; clear S a; intro a S
                  refine l_on S rfl rfl rfl rfl bc52 ?_
                  refine l_pure S (p_builtin (xs := [_]) rfl (fun _ _ _ => rfl)) rfl rfl rfl ?_; clear S a; intro a S
                  refine l_on S rfl rfl rfl rfl bc52 ?_
                  refine l_pure S (p_eql rfl rfl) rfl rfl rfl ?_; clear S a; intro a S
                  refine l_on S rfl rfl rfl rfl (by rw [hn]; simp_all) ?_
                  refine l_pure S (p_pick_t rfl bc52 rfl) rfl rfl rfl ?_; clear S a; intro a S
                  refine l_on S rfl rfl rfl rfl (by rw [hn]; simp_all) ?_
                  refine l_pure S (p_beql Try.underlying4 rfl rfl) rfl rfl rfl ?_; clear S a; intro a S
                  refine l_pure S (p_pick_t rfl (by rw [hn]; simp_all) rfl) rfl rfl rfl ?_; clear S a; intro a S
                  refine l_pure S (p_move rfl) rfl rfl rfl ?_; clear S a; intro a S
                  refine l_on S rfl rfl rfl rfl (by rw [he]; simp_all) ?_
                  refine l_pure S (p_move rfl) rfl rfl rfl ?_; clear S a; intro a S
                  refine l_on S rfl rfl rfl rfl (by rw [he]; simp_all) ?_
                  refine l_pure S (p_not rfl) rfl rfl rfl ?_; clear S a; intro a S
                  refine l_pure S (p_pick_t rfl (by rw [he]; simp_all) rfl) rfl rfl rfl ?_; clear S a; intro a S
                  refine l_pure S (p_assign rfl) rfl rfl rfl ?_; clear S a; intro a S
                  refine l_nil ?_
                  refine e_then ?_
                  refine wp_ret ?_
                  first | exact r_ret1 S rfl rfl ⟨rfl, H.below⟩ | exact r_ret1 S rfl rfl ⟨by rw [hs]; rfl, H.below⟩
                · skip
                  have c52 := bc52
                  replace c52 := not_eq_false_ c52
                  
                  refine l_off S rfl rfl rfl rfl bc52 rfl rfl ?_; clear S a; intro a S
                  refine l_off S rfl rfl rfl rfl bc52 rfl rfl ?_; clear S a; intro a S
                  refine l_off S rfl rfl rfl rfl bc52 rfl rfl ?_; clear S a; intro a S
                  refine l_off S rfl rfl rfl rfl bc52 rfl rfl ?_; clear S a; intro a S
                  refine l_on S rfl rfl rfl rfl (by rw [hn]; simp_all) ?_
                  refine l_pure S (p_pick_f rfl bc52 rfl) rfl rfl rfl ?_; clear S a; intro a S
                  refine l_on S rfl rfl rfl rfl (by rw [hn]; simp_all) ?_
                  refine l_pure S (p_beql Try.underlying4 rfl rfl) rfl rfl rfl ?_; clear S a; intro a S
                  refine l_pure S (p_pick_t rfl (by rw [hn]; simp_all) rfl) rfl rfl rfl ?_; clear S a; intro a S
                  refine l_pure S (p_move rfl) rfl rfl rfl ?_; clear S a; intro a S
                  refine l_on S rfl rfl rfl rfl (by rw [he]; simp_all) ?_
                  refine l_pure S (p_move rfl) rfl rfl rfl ?_; clear S a; intro a S
                  refine l_on S rfl rfl rfl rfl (by rw [he]; simp_all) ?_
                  refine l_pure S (p_not rfl) rfl rfl rfl ?_; clear S a; intro a S
                  refine l_pure S (p_pick_t rfl (by rw [he]; simp_all) rfl) rfl rfl rfl ?_; clear S a; intro a S
                  refine l_pure S (p_assign rfl) rfl rfl rfl ?_; clear S a; intro a S
                  refine l_nil ?_
                  refine e_then ?_
                  refine wp_ret ?_
                  first | exact r_ret1 S rfl rfl ⟨rfl, H.below⟩ | exact r_ret1 S rfl rfl ⟨by rw [hs]; rfl, H.below⟩
              · skip
                refine l_off S rfl rfl rfl rfl bc49 rfl rfl ?_; clear S a; intro a S
                refine l_off S rfl rfl rfl rfl bc49 rfl rfl ?_; clear S a; intro a S
                refine l_off S rfl rfl rfl rfl bc49 rfl rfl ?_; clear S a; intro a S
                refine l_on S rfl rfl rfl rfl (by rw [hn]; simp_all) ?_
                refine l_pure S (p_pick_f rfl bc49 rfl) rfl rfl rfl ?_; clear S a; intro a S
                refine l_on S rfl rfl rfl rfl (by rw [hn]; simp_all) ?_
                refine l_pure S (p_move rfl) rfl rfl rfl ?_; clear S a; intro a S
                refine l_off S rfl rfl rfl rfl rfl rfl rfl ?_; clear S a; intro a S
                refine l_off S rfl rfl rfl rfl rfl rfl rfl ?_; clear S a; intro a S
                refine l_off S rfl rfl rfl rfl rfl rfl rfl ?_; clear S a; intro a S
                refine l_off S rfl rfl rfl rfl rfl rfl rfl ?_; clear S a; intro a S
                refine l_on S rfl rfl rfl rfl (by rw [hn]; simp_all) ?_
                refine l_pure S (p_pick_f rfl rfl rfl) rfl rfl rfl ?_; clear S a; intro a S
                refine l_on S rfl rfl rfl rfl (by rw [hn]; simp_all) ?_
                refine l_pure S (p_beql Try.underlying4 rfl rfl) rfl rfl rfl ?_; clear S a; intro a S
                refine l_pure S (p_pick_t rfl (by rw [hn]; simp_all) rfl) rfl rfl rfl ?_; clear S a; intro a S
                refine l_pure S (p_move rfl) rfl rfl rfl ?_; clear S a; intro a S
                refine l_on S rfl rfl rfl rfl (by rw [he]; simp_all) ?_
                refine l_pure S (p_move rfl) rfl rfl rfl ?_; clear S a; intro a S
                refine l_on S rfl rfl rfl rfl (by rw [he]; simp_all) ?_
                refine l_pure S (p_not rfl) rfl rfl rfl ?_; clear S a; intro a S
                refine l_pure S (p_pick_t rfl (by rw [he]; simp_all) rfl) rfl rfl rfl ?_; clear S a; intro a S
                refine l_pure S (p_assign rfl) rfl rfl rfl ?_; clear S a; intro a S
                refine l_nil ?_
                refine e_then ?_
                refine wp_ret ?_
                first | exact r_ret1 S rfl rfl ⟨rfl, H.below⟩ | exact r_ret1 S rfl rfl ⟨by rw [hs]; rfl, H.below⟩
        · skip
          have c16 := bc16
          have c16 := of_decide_eq_false c16
          refine l_off S rfl rfl rfl rfl bc16 rfl rfl ?_; clear S a; intro a S
          refine l_off S rfl rfl rfl rfl bc16 rfl rfl ?_; clear S a; intro a S
          refine l_off S rfl rfl rfl rfl bc16 rfl rfl ?_; clear S a; intro a S
          refine l_off S rfl rfl rfl rfl bc16 rfl rfl ?_; clear S a; intro a S
          refine l_on S rfl rfl rfl rfl bc9 ?_
          refine l_pure S (p_pick_f rfl bc16 rfl) rfl rfl rfl ?_; clear S a; intro a S
          refine l_pure S (p_pick_f rfl bc9 rfl) rfl rfl rfl ?_; clear S a; intro a S
          refine l_nil ?_
          refine e_then ?_
          refine c_cond (b := false) S rfl (fun h => by cases h) (fun _ => ?_)
          refine wp_skip ?_
          refine e_then ?_
          refine wp_seq ?_
          refine c_region ?_
          refine l_read S H (r_loadn (m := 7) rfl List.mem_cons_self ag43 sz43 rfl rfl) rfl rfl rfl ?_; clear S a; intro a S
          have hw_ : (decide (weighF 20 v 300 ≥ 0) && b) = true := by assumption
          obtain ⟨hgood, hlen, hn, he, hs⟩ := hl hw_ (by clear S; rintro ⟨g1_, g2_, g3_⟩; first | omega | exact absurd (g3_.symm.trans (show _ = false by assumption)) (by decide) | exact absurd (g1_.symm.trans (show _ = false by assumption)) (by decide))
          have hcon := wr.wire22 20 v A3 cap3 A6 cap6 w hgood (C_old h3.out H) (C_old h6.out H)
          refine l_call S rfl rfl Try.func22 rfl rfl (hcon) rfl rfl rfl ?_
          rintro e w ⟨rfl, hb⟩
          refine ⟨_, rfl, ?_⟩; clear S a; intro a S
          replace H := H.later hb; clear hb hcon
          have hcon := t.tells21 (wireF 20 v) w hlen
          refine l_call S rfl rfl Try.func21 rfl rfl (hcon) rfl rfl rfl ?_
          rintro e w ⟨rfl, hb⟩
          refine ⟨_, rfl, ?_⟩; clear S a; intro a S
          replace H := H.later hb; clear hb hcon
          refine l_pure S (p_move rfl) rfl rfl rfl ?_; clear S a; intro a S
          refine l_pure S (p_extract rfl rfl) rfl rfl rfl ?_; clear S a; intro a S
          refine l_pure S (p_extract rfl rfl) rfl rfl rfl ?_; clear S a; intro a S
          refine l_pure S (p_extract rfl rfl) rfl rfl rfl ?_; clear S a; intro a S
          refine l_pure S (p_extract rfl rfl) rfl rfl rfl ?_; clear S a; intro a S
          refine l_pure S (p_assign rfl) rfl rfl rfl ?_; clear S a; intro a S
          refine l_pure S (p_assign rfl) rfl rfl rfl ?_; clear S a; intro a S
          refine l_pure S (p_assign rfl) rfl rfl rfl ?_; clear S a; intro a S
          refine l_pure S (p_assign rfl) rfl rfl rfl ?_; clear S a; intro a S
          refine l_nil ?_
          refine e_then ?_
          refine wp_seq ?_
          refine c_region ?_
          have hcon := t.tells21 ⟨#[95, 13, 10]⟩ w (by decide)
          refine l_call S rfl rfl Try.func21 rfl rfl (hcon) rfl rfl rfl ?_
          rintro e w ⟨rfl, hb⟩
          refine ⟨_, rfl, ?_⟩; clear S a; intro a S
          replace H := H.later hb; clear hb hcon
          refine l_pure S (p_move rfl) rfl rfl rfl ?_; clear S a; intro a S
          refine l_pure S (p_extract rfl rfl) rfl rfl rfl ?_; clear S a; intro a S
          refine l_pure S (p_extract rfl rfl) rfl rfl rfl ?_; clear S a; intro a S
          refine l_pure S (p_extract rfl rfl) rfl rfl rfl ?_; clear S a; intro a S
          refine l_pure S (p_extract rfl rfl) rfl rfl rfl ?_; clear S a; intro a S
          refine l_pure S (p_assign rfl) rfl rfl rfl ?_; clear S a; intro a S
          refine l_pure S (p_assign rfl) rfl rfl rfl ?_; clear S a; intro a S
          refine l_pure S (p_assign rfl) rfl rfl rfl ?_; clear S a; intro a S
          refine l_pure S (p_assign rfl) rfl rfl rfl ?_; clear S a; intro a S
          refine l_nil ?_
          refine e_then ?_
          refine wp_seq ?_
          refine c_region ?_
          refine l_pure S (p_fieldAddr rfl (fun w => fa43_0 w _ _)) rfl rfl rfl ?_; clear S a; intro a S
          refine l_read S H (r_load rfl List.mem_cons_self rfl (fun w hc => ld1 ag5 hc)) rfl rfl rfl ?_; clear S a; intro a S
          refine l_call S rfl rfl Try.func23 rfl rfl (PFnRawTells.spec_Many.calls 5 v.f0 _ _ _ (many_f v.f0)) rfl rfl rfl ?_
          rintro e w ⟨rfl, hd⟩
          refine ⟨_, rfl, ?_⟩; clear S a; intro a S
          replace H := H.later hd.below; clear hd
          refine l_pure S (p_move rfl) rfl rfl rfl ?_; clear S a; intro a S
          refine l_pure S (p_extract rfl rfl) rfl rfl rfl ?_; clear S a; intro a S
          refine l_pure S (p_extract rfl rfl) rfl rfl rfl ?_; clear S a; intro a S
          refine l_pure S (p_assign rfl) rfl rfl rfl ?_; clear S a; intro a S
          refine l_pure S (p_assign rfl) rfl rfl rfl ?_; clear S a; intro a S
          refine l_nil ?_
          refine e_then ?_
          refine wp_seq ?_
          refine c_region ?_
          refine l_pure S (p_move rfl) rfl rfl rfl ?_; clear S a; intro a S
          refine l_pure S (p_move rfl) rfl rfl rfl ?_; clear S a; intro a S
          refine l_on S rfl rfl rfl rfl null_lit ?_
          refine l_pure S (p_move rfl) rfl rfl rfl ?_; clear S a; intro a S
          refine l_pure S (p_pick_t rfl null_lit rfl) rfl rfl rfl ?_; clear S a; intro a S
          refine l_pure S (p_move rfl) rfl rfl rfl ?_; clear S a; intro a S
          refine l_on S rfl rfl rfl rfl rfl ?_
          refine l_pure S (p_move rfl) rfl rfl rfl ?_; clear S a; intro a S
          refine l_on S rfl rfl rfl rfl rfl ?_
          refine l_pure S (p_fieldAddr rfl (fun w => fa43_4 w _ _)) rfl rfl rfl ?_; clear S a; intro a S
          refine l_on S rfl rfl rfl rfl rfl ?_
          refine l_read S H (r_load rfl List.mem_cons_self rfl (fun w hc => ld1 ag4 hc)) rfl rfl rfl ?_; clear S a; intro a S
          refine l_on S rfl rfl rfl rfl rfl ?_
          refine l_pure S (p_move rfl) rfl rfl rfl ?_; clear S a; intro a S
          refine l_split (S.of 64 rfl) (fun bc75 => ?_) (fun bc75 => ?_)
          · skip
            refine l_off S rfl rfl rfl rfl bc75 rfl rfl ?_; clear S a; intro a S
            refine l_off S rfl rfl rfl rfl bc75 rfl rfl ?_; clear S a; intro a S
            refine l_off S rfl rfl rfl rfl bc75 rfl rfl ?_; clear S a; intro a S
            refine l_on S rfl rfl rfl rfl rfl ?_
            refine l_pure S (p_pick_t rfl bc75 rfl) rfl rfl rfl ?_; clear S a; intro a S
            refine l_on S rfl rfl rfl rfl rfl ?_
            refine l_pure S (p_beql Try.underlying4 rfl rfl) rfl rfl rfl ?_; clear S a; intro a S
            refine l_pure S (p_pick_t rfl rfl rfl) rfl rfl rfl ?_; clear S a; intro a S
            refine l_pure S (p_move rfl) rfl rfl rfl ?_; clear S a; intro a S
            refine l_on S rfl rfl rfl rfl (by rw [hn]; simp_all) ?_
            refine l_pure S (p_move rfl) rfl rfl rfl ?_; clear S a; intro a S
            refine l_on S rfl rfl rfl rfl (by rw [hn]; simp_all) ?_
            refine l_pure S (p_move rfl) rfl rfl rfl ?_; clear S a; intro a S
            refine l_on S rfl rfl rfl rfl (by rw [hn]; simp_all) ?_
            refine l_pure S (p_move rfl) rfl rfl rfl ?_; clear S a; intro a S
            refine l_split (S.of 74 rfl) (fun bc78 => ?_) (fun bc78 => ?_)
            · skip
              refine l_on S rfl rfl rfl rfl bc78 ?_
              refine l_pure S (p_fieldAddr rfl (fun w => fa43_4 w _ _)) rfl rfl rfl ?_; clear S a; intro a S
              refine l_on S rfl rfl rfl rfl bc78 ?_
              refine l_read S H (r_load rfl List.mem_cons_self rfl (fun w hc => ld1 ag4 hc)) rfl rfl rfl ?_; clear S a; intro a S
              refine l_on S rfl rfl rfl rfl bc78 ?_
              refine l_pure S (p_not rfl) rfl rfl rfl ?_; clear S a; intro a S
              refine l_on S rfl rfl rfl rfl (by rw [hn]; simp_all) ?_
              refine l_pure S (p_pick_t rfl bc78 rfl) rfl rfl rfl ?_; clear S a; intro a S
              refine l_on S rfl rfl rfl rfl (by rw [hn]; simp_all) ?_
              refine l_pure S (p_move rfl) rfl rfl rfl ?_; clear S a; intro a S
              refine l_split (S.of 79 rfl) (fun bc81 => ?_) (fun bc81 => ?_)
              · skip
                have c81 := bc81
                replace c81 := not_eq_true_ c81
                
                refine l_on S rfl rfl rfl rfl bc81 ?_
                refine l_pure S (p_fieldAddr rfl (fun w => fa43_3 w _ _)) rfl rfl rfl ?_; clear S a; intro a S
                refine l_on S rfl rfl rfl rfl bc81 ?_
                refine l_read S H (r_load rfl List.mem_cons_self rfl (fun w hc => ld1 ag41 hc)) rfl rfl rfl ?_; clear S a; intro a S
                refine l_on S rfl rfl rfl rfl bc81 ?_
                refine l_pure S (p_builtin (xs := [_]) rfl (fun _ _ _ => rfl)) rfl rfl rfl ?_; clear S a; intro a S
                refine l_on S rfl rfl rfl rfl bc81 ?_
                refine l_pure S (p_eql rfl rfl) rfl rfl rfl ?_; clear S a; intro a S
                refine l_on S rfl rfl rfl rfl (by rw [hn]; simp_all) ?_
                refine l_pure S (p_pick_t rfl bc81 rfl) rfl rfl rfl ?_; clear S a; intro a S
                refine l_on S rfl rfl rfl rfl (by rw [hn]; simp_all) ?_
                refine l_pure S (p_beql Try.underlying4 rfl rfl) rfl rfl rfl ?_; clear S a; intro a S
                refine l_pure S (p_pick_t rfl (by rw [hn]; simp_all) rfl) rfl rfl rfl ?_; clear S a; intro a S
                refine l_pure S (p_move rfl) rfl rfl rfl ?_; clear S a; intro a S
                refine l_on S rfl rfl rfl rfl (by rw [he]; simp_all) ?_
                refine l_pure S (p_move rfl) rfl rfl rfl ?_; clear S a; intro a S
                refine l_on S rfl rfl rfl rfl (by rw [he]; simp_all) ?_
                refine l_pure S (p_not rfl) rfl rfl rfl ?_; clear S a; intro a S
                refine l_pure S (p_pick_t rfl (by rw [he]; simp_all) rfl) rfl rfl rfl ?_; clear S a; intro a S
                refine l_pure S (p_assign rfl) rfl rfl rfl ?_; clear S a; intro a S
                refine l_nil ?_
                refine e_then ?_
                refine wp_ret ?_
                first | exact r_ret1 S rfl rfl ⟨rfl, H.below⟩ | exact r_ret1 S rfl rfl ⟨by rw [hs]; rfl, H.below⟩
              · skip
                have c81 := bc81
                replace c81 := not_eq_false_ c81
                
                refine l_off S rfl rfl rfl rfl bc81 rfl rfl ?_; clear S a; intro a S
                refine l_off S rfl rfl rfl rfl bc81 rfl rfl ?_; clear S a; intro a S
                refine l_off S rfl rfl rfl rfl bc81 rfl rfl ?_; clear S a; intro a S
                refine l_off S rfl rfl rfl rfl bc81 rfl rfl ?_; clear S a; intro a S
                refine l_on S rfl rfl rfl rfl (by rw [hn]; simp_all) ?_
                refine l_pure S (p_pick_f rfl bc81 rfl) rfl rfl rfl ?_; clear S a; intro a S
                refine l_on S rfl rfl rfl rfl (by rw [hn]; simp_all) ?_
                refine l_pure S (p_beql Try.underlying4 rfl rfl) rfl rfl rfl ?_; clear S a; intro a S
                refine l_pure S (p_pick_t rfl (by rw [hn]; simp_all) rfl) rfl rfl rfl ?_; clear S a; intro a S
                refine l_pure S (p_move rfl) rfl rfl rfl ?_; clear S a; intro a S
                refine l_on S rfl rfl rfl rfl (by rw [he]; simp_all) ?_
                refine l_pure S (p_move rfl) rfl rfl rfl ?_; clear S a; intro a S
                refine l_on S rfl rfl rfl rfl (by rw [he]; simp_all) ?_
                refine l_pure S (p_not rfl) rfl rfl rfl ?_; clear S a; intro a S
                refine l_pure S (p_pick_t rfl (by rw [he]; simp_all) rfl) rfl rfl rfl ?_; clear S a; intro a S
                refine l_pure S (p_assign rfl) rfl rfl rfl ?_; clear S a; intro a S
                refine l_nil ?_
                refine e_then ?_
                refine wp_ret ?_
                first | exact r_ret1 S rfl rfl ⟨rfl, H.below⟩ | exact r_ret1 S rfl rfl ⟨by rw [hs]; rfl, H.below⟩
            · skip
              refine l_off S rfl rfl rfl rfl bc78 rfl rfl ?_; clear S a; intro a S
              refine l_off S rfl rfl rfl rfl bc78 rfl rfl ?_; clear S a; intro a S
              refine l_off S rfl rfl rfl rfl bc78 rfl rfl ?_; clear S a; intro a S
              refine l_on S rfl rfl rfl rfl (by rw [hn]; simp_all) ?_
              refine l_pure S (p_pick_f rfl bc78 rfl) rfl rfl rfl ?_; clear S a; intro a S
              refine l_on S rfl rfl rfl rfl (by rw [hn]; simp_all) ?_
              refine l_pure S (p_move rfl) rfl rfl rfl ?_; clear S a; intro a S
              refine l_off S rfl rfl rfl rfl rfl rfl rfl ?_; clear S a; intro a S
              refine l_off S rfl rfl rfl rfl rfl rfl rfl ?_; clear S a; intro a S
              refine l_off S rfl rfl rfl rfl rfl rfl rfl ?_; clear S a; intro a S
              refine l_off S rfl rfl rfl rfl rfl rfl rfl ?_; clear S a; intro a S
              refine l_on S rfl rfl rfl rfl (by rw [hn]; simp_all) ?_
              refine l_pure S (p_pick_f rfl rfl rfl) rfl rfl rfl ?_; clear S a; intro a S
              refine l_on S rfl rfl rfl rfl (by rw [hn]; simp_all) ?_
              refine l_pure S (p_beql Try.underlying4 rfl rfl) rfl rfl rfl ?_; clear S a; intro a S
              refine l_pure S (p_pick_t rfl (by rw [hn]; simp_all) rfl) rfl rfl rfl ?_; clear S a; intro a S
              refine l_pure S (p_move rfl) rfl rfl rfl ?_; clear S a; intro a S
              refine l_on S rfl rfl rfl rfl (by rw [he]; simp_all) ?_
              refine l_pure S (p_move rfl) rfl rfl rfl ?_; clear S a; intro a S
              refine l_on S rfl rfl rfl rfl (by rw [he]; simp_all) ?_
              refine l_pure S (p_not rfl) rfl rfl rfl ?_; clear S a; intro a S
              refine l_pure S (p_pick_t rfl (by rw [he]; simp_all) rfl) rfl rfl rfl ?_; clear S a; intro a S
              refine l_pure S (p_assign rfl) rfl rfl rfl ?_; clear S a; intro a S
              refine l_nil ?_
              refine e_then ?_
              refine wp_ret ?_
              first | exact r_ret1 S rfl rfl ⟨rfl, H.below⟩ | exact r_ret1 S rfl rfl ⟨by rw [hs]; rfl, H.below⟩
          · skip
            refine l_on S rfl rfl rfl rfl bc75 ?_
            refine l_pure S (p_fieldAddr rfl (fun w => fa43_0 w _ _)) rfl rfl rfl ?_; clear S a; intro a S
            refine l_on S rfl rfl rfl rfl bc75 ?_
            refine l_read S H (r_load rfl List.mem_cons_self rfl (fun w hc => ld1 ag5 hc)) rfl rfl rfl ?_; clear S a; intro a S
            refine l_on S rfl rfl rfl rfl bc75 ?_
            refine l_pure S (p_eql rfl rfl) rfl rfl rfl ?_; clear S a; intro a S
            refine l_on S rfl rfl rfl rfl rfl ?_
            refine l_pure S (p_pick_f rfl bc75 rfl) rfl rfl rfl ?_; clear S a; intro a S
            refine l_on S rfl rfl rfl rfl rfl ?_
            refine l_pure S (p_beql Try.underlying4 rfl rfl) rfl rfl rfl ?_; clear S a; intro a S
            refine l_pure S (p_pick_t rfl rfl rfl) rfl rfl rfl ?_; clear S a; intro a S
            refine l_pure S (p_move rfl) rfl rfl rfl ?_; clear S a; intro a S
            refine l_on S rfl rfl rfl rfl (by rw [hn]; simp_all) ?_
            refine l_pure S (p_move rfl) rfl rfl rfl ?_; clear S a; intro a S
            refine l_on S rfl rfl rfl rfl (by rw [hn]; simp_all) ?_
            refine l_pure S (p_move rfl) rfl rfl rfl ?_; clear S a; intro a S
            refine l_on S rfl rfl rfl rfl (by rw [hn]; simp_all) ?_
            refine l_pure S (p_move rfl) rfl rfl rfl ?_; clear S a; intro a S
            refine l_split (S.of 74 rfl) (fun bc94 => ?_) (fun bc94 => ?_)
            · skip
              refine l_on S rfl rfl rfl rfl bc94 ?_
              refine l_pure S (p_fieldAddr rfl (fun w => fa43_4 w _ _)) rfl rfl rfl ?_; clear S a; intro a S
              refine l_on S rfl rfl rfl rfl bc94 ?_
              refine l_read S H (r_load rfl List.mem_cons_self rfl (fun w hc => ld1 ag4 hc)) rfl rfl rfl ?_; clear S a; intro a S
              refine l_on S rfl rfl rfl rfl bc94 ?_
              refine l_pure S (p_not rfl) rfl rfl rfl ?_; clear S a; intro a S
              refine l_on S rfl rfl rfl rfl (by rw [hn]; simp_all) ?_
              refine l_pure S (p_pick_t rfl bc94 rfl) rfl rfl rfl ?_; clear S a; intro a S
              refine l_on S rfl rfl rfl rfl (by rw [hn]; simp_all) ?_
              refine l_pure S (p_move rfl) rfl rfl rfl ?_; clear S a; intro a S
              refine l_split (S.of 79 rfl) (fun bc97 => ?_) (fun bc97 => ?_)
              · skip
                have c97 := bc97
                replace c97 := not_eq_true_ c97
                
                refine l_on S rfl rfl rfl rfl bc97 ?_
                refine l_pure S (p_fieldAddr rfl (fun w => fa43_3 w _ _)) rfl rfl rfl ?_; clear S a; intro a S
                refine l_on S rfl rfl rfl rfl bc97 ?_
                refine l_read S H (r_load rfl List.mem_cons_self rfl (fun w hc => ld1 ag41 hc)) rfl rfl rfl ?_; clear S a; intro a S
                refine l_on S rfl rfl rfl rfl bc97 ?_
                refine l_pure S (p_builtin (xs := [_]) rfl (fun _ _ _ => rfl)) rfl rfl rfl ?_; clear S a; intro a S
                refine l_on S rfl rfl rfl rfl bc97 ?_
                refine l_pure S (p_eql rfl rfl) rfl rfl rfl ?_; clear S a; intro a S
                refine l_on S rfl rfl rfl rfl (by rw [hn]; simp_all) ?_
                refine l_pure S (p_pick_t rfl bc97 rfl) rfl rfl rfl ?_; clear S a; intro a S
                refine l_on S rfl rfl rfl rfl (by rw [hn]; simp_all) ?_
                refine l_pure S (p_beql Try.underlying4 rfl rfl) rfl rfl rfl ?_; clear S a; intro a S
                refine l_pure S (p_pick_t rfl (by rw [hn]; simp_all) rfl) rfl rfl rfl ?_; clear S a; intro a S
                refine l_pure S (p_move rfl) rfl rfl rfl ?_; clear S a; intro a S
                refine l_on S rfl rfl rfl rfl (by rw [he]; simp_all) ?_
                refine l_pure S (p_move rfl) rfl rfl rfl ?_; clear S a; intro a S
                refine l_on S rfl rfl rfl rfl (by rw [he]; simp_all) ?_
                refine l_pure S (p_not rfl) rfl rfl rfl ?_; clear S a; intro a S
                refine l_pure S (p_pick_t rfl (by rw [he]; simp_all) rfl) rfl rfl rfl ?_; clear S a; intro a S
                refine l_pure S (p_assign rfl) rfl rfl rfl ?_; clear S a; intro a S
                refine l_nil ?_
                refine e_then ?_
                refine wp_ret ?_
                first | exact r_ret1 S rfl rfl ⟨rfl, H.below⟩ | exact r_ret1 S rfl rfl ⟨by rw [hs]; rfl, H.below⟩
              · skip
                have c97 := bc97
                replace c97 := not_eq_false_ c97
                
                refine l_off S rfl rfl rfl rfl bc97 rfl rfl ?_; clear S a; intro a S
                refine l_off S rfl rfl rfl rfl bc97 rfl rfl ?_; clear S a; intro a S
                refine l_off S rfl rfl rfl rfl bc97 rfl rfl ?_; clear S a; intro a S
                refine l_off S rfl rfl rfl rfl bc97 rfl rfl ?_; clear S a; intro a S
                refine l_on S rfl rfl rfl rfl (by rw [hn]; simp_all) ?_
                refine l_pure S (p_pick_f rfl bc97 rfl) rfl rfl rfl ?_; clear S a; intro a S
                refine l_on S rfl rfl rfl rfl (by rw [hn]; simp_all) ?_
                refine l_pure S (p_beql Try.underlying4 rfl rfl) rfl rfl rfl ?_; clear S a; intro a S
                refine l_pure S (p_pick_t rfl (by rw [hn]; simp_all) rfl) rfl rfl rfl ?_; clear S a; intro a S
                refine l_pure S (p_move rfl) rfl rfl rfl ?_; clear S a; intro a S
                refine l_on S rfl rfl rfl rfl (by rw [he]; simp_all) ?_
                refine l_pure S (p_move rfl) rfl rfl rfl ?_; clear S a; intro a S
                refine l_on S rfl rfl rfl rfl (by rw [he]; simp_all) ?_
                refine l_pure S (p_not rfl) rfl rfl rfl ?_; clear S a; intro a S
                refine l_pure S (p_pick_t rfl (by rw [he]; simp_all) rfl) rfl rfl rfl ?_; clear S a; intro a S
                refine l_pure S (p_assign rfl) rfl rfl rfl ?_; clear S a; intro a S
                refine l_nil ?_
                refine e_then ?_
                refine wp_ret ?_
                first | exact r_ret1 S rfl rfl ⟨rfl, H.below⟩ | exact r_ret1 S rfl rfl ⟨by rw [hs]; rfl, H.below⟩
            · skip
              refine l_off S rfl rfl rfl rfl bc94 rfl rfl ?_; clear S a; intro a S
              refine l_off S rfl rfl rfl rfl bc94 rfl rfl ?_; clear S a; intro a S
              refine l_off S rfl rfl rfl rfl bc94 rfl rfl ?_; clear S a; intro a S
              refine l_on S rfl rfl rfl rfl (by rw [hn]; simp_all) ?_
              refine l_pure S (p_pick_f rfl bc94 rfl) rfl rfl rfl ?_; clear S a; intro a S
              refine l_on S rfl rfl rfl rfl (by rw [hn]; simp_all) ?_
              refine l_pure S (p_move rfl) rfl rfl rfl ?_; clear S a; intro a S
              refine l_off S rfl rfl rfl rfl rfl rfl rfl ?_; clear S a; intro a S
              refine l_off S rfl rfl rfl rfl rfl rfl rfl ?_; clear S a; intro a S
              refine l_off S rfl rfl rfl rfl rfl rfl rfl ?_; clear S a; intro a S
              refine l_off S rfl rfl rfl rfl rfl rfl rfl ?_; clear S a; intro a S
              refine l_on S rfl rfl rfl rfl (by rw [hn]; simp_all) ?_
              refine l_pure S (p_pick_f rfl rfl rfl) rfl rfl rfl ?_; clear S a; intro a S
              refine l_on S rfl rfl rfl rfl (by rw [hn]; simp_all) ?_
              refine l_pure S (p_beql Try.underlying4 rfl rfl) rfl rfl rfl ?_; clear S a; intro a S
              refine l_pure S (p_pick_t rfl (by rw [hn]; simp_all) rfl) rfl rfl rfl ?_; clear S a; intro a S
              refine l_pure S (p_move rfl) rfl rfl rfl ?_; clear S a; intro a S
              refine l_on S rfl rfl rfl rfl (by rw [he]; simp_all) ?_
              refine l_pure S (p_move rfl) rfl rfl rfl ?_; clear S a; intro a S
              refine l_on S rfl rfl rfl rfl (by rw [he]; simp_all) ?_
              refine l_pure S (p_not rfl) rfl rfl rfl ?_; clear S a; intro a S
              refine l_pure S (p_pick_t rfl (by rw [he]; simp_all) rfl) rfl rfl rfl ?_; clear S a; intro a S
              refine l_pure S (p_assign rfl) rfl rfl rfl ?_; clear S a; intro a S
              refine l_nil ?_
              refine e_then ?_
              refine wp_ret ?_
              first | exact r_ret1 S rfl rfl ⟨rfl, H.below⟩ | exact r_ret1 S rfl rfl ⟨by rw [hs]; rfl, H.below⟩
      · skip
        refine l_off S rfl rfl rfl rfl bc14 rfl rfl ?_; clear S a; intro a S
        refine l_off S rfl rfl rfl rfl bc14 rfl rfl ?_; clear S a; intro a S
        refine l_off S rfl rfl rfl rfl bc14 rfl rfl ?_; clear S a; intro a S
        refine l_off S rfl rfl rfl rfl bc14 rfl rfl ?_; clear S a; intro a S
        refine l_on S rfl rfl rfl rfl bc9 ?_
        refine l_pure S (p_pick_f rfl bc14 rfl) rfl rfl rfl ?_; clear S a; intro a S
        refine l_on S rfl rfl rfl rfl bc9 ?_
        refine l_pure S (p_move rfl) rfl rfl rfl ?_; clear S a; intro a S
        refine l_off S rfl rfl rfl rfl rfl rfl rfl ?_; clear S a; intro a S
        refine l_off S rfl rfl rfl rfl rfl rfl rfl ?_; clear S a; intro a S
        refine l_off S rfl rfl rfl rfl rfl rfl rfl ?_; clear S a; intro a S
        refine l_off S rfl rfl rfl rfl rfl rfl rfl ?_; clear S a; intro a S
        refine l_on S rfl rfl rfl rfl bc9 ?_
        refine l_pure S (p_pick_f rfl rfl rfl) rfl rfl rfl ?_; clear S a; intro a S
        refine l_pure S (p_pick_f rfl bc9 rfl) rfl rfl rfl ?_; clear S a; intro a S
        refine l_nil ?_
        refine e_then ?_
        refine c_cond (b := false) S rfl (fun h => by cases h) (fun _ => ?_)
        refine wp_skip ?_
        refine e_then ?_
        refine wp_seq ?_
        refine c_region ?_
        refine l_read S H (r_loadn (m := 7) rfl List.mem_cons_self ag43 sz43 rfl rfl) rfl rfl rfl ?_; clear S a; intro a S
        have hw_ : (decide (weighF 20 v 300 ≥ 0) && b) = true := by assumption
        obtain ⟨hgood, hlen, hn, he, hs⟩ := hl hw_ (by clear S; rintro ⟨g1_, g2_, g3_⟩; first | omega | exact absurd (g3_.symm.trans (show _ = false by assumption)) (by decide) | exact absurd (g1_.symm.trans (show _ = false by assumption)) (by decide))
        have hcon := wr.wire22 20 v A3 cap3 A6 cap6 w hgood (C_old h3.out H) (C_old h6.out H)
        refine l_call S rfl rfl Try.func22 rfl rfl (hcon) rfl rfl rfl ?_
        rintro e w ⟨rfl, hb⟩
        refine ⟨_, rfl, ?_⟩; clear S a; intro a S
        replace H := H.later hb; clear hb hcon
        have hcon := t.tells21 (wireF 20 v) w hlen
        refine l_call S rfl rfl Try.func21 rfl rfl (hcon) rfl rfl rfl ?_
        rintro e w ⟨rfl, hb⟩
        refine ⟨_, rfl, ?_⟩; clear S a; intro a S
        replace H := H.later hb; clear hb hcon
        refine l_pure S (p_move rfl) rfl rfl rfl ?_; clear S a; intro a S
        refine l_pure S (p_extract rfl rfl) rfl rfl rfl ?_; clear S a; intro a S
        refine l_pure S (p_extract rfl rfl) rfl rfl rfl ?_; clear S a; intro a S
        refine l_pure S (p_extract rfl rfl) rfl rfl rfl ?_; clear S a; intro a S
        refine l_pure S (p_extract rfl rfl) rfl rfl rfl ?_; clear S a; intro a S
        refine l_pure S (p_assign rfl) rfl rfl rfl ?_; clear S a; intro a S
        refine l_pure S (p_assign rfl) rfl rfl rfl ?_; clear S a; intro a S
        refine l_pure S (p_assign rfl) rfl rfl rfl ?_; clear S a; intro a S
        refine l_pure S (p_assign rfl) rfl rfl rfl ?_; clear S a; intro a S
        refine l_nil ?_
        refine e_then ?_
        refine wp_seq ?_
        refine c_region ?_
        have hcon := t.tells21 ⟨#[95, 13, 10]⟩ w (by decide)
        refine l_call S rfl rfl Try.func21 rfl rfl (hcon) rfl rfl rfl ?_
        rintro e w ⟨rfl, hb⟩
        refine ⟨_, rfl, ?_⟩; clear S a; intro a S
        replace H := H.later hb; clear hb hcon
        refine l_pure S (p_move rfl) rfl rfl rfl ?_; clear S a; intro a S
        refine l_pure S (p_extract rfl rfl) rfl rfl rfl ?_; clear S a; intro a S
        refine l_pure S (p_extract rfl rfl) rfl rfl rfl ?_; clear S a; intro a S
        refine l_pure S (p_extract rfl rfl) rfl rfl rfl ?_; clear S a; intro a S
        refine l_pure S (p_extract rfl rfl) rfl rfl rfl ?_; clear S a; intro a S
        refine l_pure S (p_assign rfl) rfl rfl rfl ?_; clear S a; intro a S
        refine l_pure S (p_assign rfl) rfl rfl rfl ?_; clear S a; intro a S
        refine l_pure S (p_assign rfl) rfl rfl rfl ?_; clear S a; intro a S
        refine l_pure S (p_assign rfl) rfl rfl rfl ?_; clear S a; intro a S
        refine l_nil ?_
        refine e_then ?_
        refine wp_seq ?_
        refine c_region ?_
        refine l_pure S (p_fieldAddr rfl (fun w => fa43_0 w _ _)) rfl rfl rfl ?_; clear S a; intro a S
        refine l_read S H (r_load rfl List.mem_cons_self rfl (fun w hc => ld1 ag5 hc)) rfl rfl rfl ?_; clear S a; intro a S
        refine l_call S rfl rfl Try.func23 rfl rfl (PFnRawTells.spec_Many.calls 5 v.f0 _ _ _ (many_f v.f0)) rfl rfl rfl ?_
        rintro e w ⟨rfl, hd⟩
        refine ⟨_, rfl, ?_⟩; clear S a; intro a S
        replace H := H.later hd.below; clear hd
        refine l_pure S (p_move rfl) rfl rfl rfl ?_; clear S a; intro a S
        refine l_pure S (p_extract rfl rfl) rfl rfl rfl ?_; clear S a; intro a S
        refine l_pure S (p_extract rfl rfl) rfl rfl rfl ?_; clear S a; intro a S
        refine l_pure S (p_assign rfl) rfl rfl rfl ?_; clear S a; intro a S
        refine l_pure S (p_assign rfl) rfl rfl rfl ?_; clear S a; intro a S
        refine l_nil ?_
        refine e_then ?_
        refine wp_seq ?_
        refine c_region ?_
        refine l_pure S (p_move rfl) rfl rfl rfl ?_; clear S a; intro a S
        refine l_pure S (p_move rfl) rfl rfl rfl ?_; clear S a; intro a S
        refine l_on S rfl rfl rfl rfl null_lit ?_
        refine l_pure S (p_move rfl) rfl rfl rfl ?_; clear S a; intro a S
        refine l_pure S (p_pick_t rfl null_lit rfl) rfl rfl rfl ?_; clear S a; intro a S
        refine l_pure S (p_move rfl) rfl rfl rfl ?_; clear S a; intro a S
        refine l_on S rfl rfl rfl rfl rfl ?_
        refine l_pure S (p_move rfl) rfl rfl rfl ?_; clear S a; intro a S
        refine l_on S rfl rfl rfl rfl rfl ?_
        refine l_pure S (p_fieldAddr rfl (fun w => fa43_4 w _ _)) rfl rfl rfl ?_; clear S a; intro a S
        refine l_on S rfl rfl rfl rfl rfl ?_
        refine l_read S H (r_load rfl List.mem_cons_self rfl (fun w hc => ld1 ag4 hc)) rfl rfl rfl ?_; clear S a; intro a S
        refine l_on S rfl rfl rfl rfl rfl ?_
        refine l_pure S (p_move rfl) rfl rfl rfl ?_; clear S a; intro a S
        refine l_split (S.of 64 rfl) (fun bc121 => ?_) (fun bc121 => ?_)
        · skip
          refine l_off S rfl rfl rfl rfl bc121 rfl rfl ?_; clear S a; intro a S
          refine l_off S rfl rfl rfl rfl bc121 rfl rfl ?_; clear S a; intro a S
          refine l_off S rfl rfl rfl rfl bc121 rfl rfl ?_; clear S a; intro a S
          refine l_on S rfl rfl rfl rfl rfl ?_
          refine l_pure S (p_pick_t rfl bc121 rfl) rfl rfl rfl ?_; clear S a; intro a S
          refine l_on S rfl rfl rfl rfl rfl ?_
          refine l_pure S (p_beql Try.underlying4 rfl rfl) rfl rfl rfl ?_; clear S a; intro a S
          refine l_pure S (p_pick_t rfl rfl rfl) rfl rfl rfl ?_; clear S a; intro a S
          refine l_pure S (p_move rfl) rfl rfl rfl ?_; clear S a; intro a S
          refine l_on S rfl rfl rfl rfl (by rw [hn]; simp_all) ?_
          refine l_pure S (p_move rfl) rfl rfl rfl ?_; clear S a; intro a S
          refine l_on S rfl rfl rfl rfl (by rw [hn]; simp_all) ?_
          refine l_pure S (p_move rfl) rfl rfl rfl ?_; clear S a; intro a S
          refine l_on S rfl rfl rfl rfl (by rw [hn]; simp_all) ?_
          refine l_pure S (p_move rfl) rfl rfl rfl ?_; clear S a; intro a S
          refine l_split (S.of 74 rfl) (fun bc124 => ?_) (fun bc124 => ?_)
          · skip
            refine l_on S rfl rfl rfl rfl bc124 ?_
            refine l_pure S (p_fieldAddr rfl (fun w => fa43_4 w _ _)) rfl rfl rfl ?_; clear S a; intro a S
            refine l_on S rfl rfl rfl rfl bc124 ?_
            refine l_read S H (r_load rfl List.mem_cons_self rfl (fun w hc => ld1 ag4 hc)) rfl rfl rfl ?_; clear S a; intro a S
            refine l_on S rfl rfl rfl rfl bc124 ?_
            refine l_pure S (p_not rfl) rfl rfl rfl ?_; clear S a; intro a S
            refine l_on S rfl rfl rfl rfl (by rw [hn]; simp_all) ?_
            refine l_pure S (p_pick_t rfl bc124 rfl) rfl rfl rfl ?_; clear S a; intro a S
            refine l_on S rfl rfl rfl rfl (by rw [hn]; simp_all) ?_
            refine l_pure S (p_move rfl) rfl rfl rfl ?_; clear S a; intro a S
            refine l_split (S.of 79 rfl) (fun bc127 => ?_) (fun bc127 => ?_)
            · skip
              have c127 := bc127
              replace c127 := not_eq_true_ c127
              
              refine l_on S rfl rfl rfl rfl bc127 ?_
              refine l_pure S (p_fieldAddr rfl (fun w => fa43_3 w _ _)) rfl rfl rfl ?_; clear S a; intro a S
              refine l_on S rfl rfl rfl rfl bc127 ?_
              refine l_read S H (r_load rfl List.mem_cons_self rfl (fun w hc => ld1 ag41 hc)) rfl rfl rfl ?_; clear S a; intro a S
              refine l_on S rfl rfl rfl rfl bc127 ?_
              refine l_pure S (p_builtin (xs := [_]) rfl (fun _ _ _ => rfl)) rfl rfl rfl ?_; clear S a; intro a S
              refine l_on S rfl rfl rfl rfl bc127 ?_
              refine l_pure S (p_eql rfl rfl) rfl rfl rfl ?_; clear S a; intro a S
              refine l_on S rfl rfl rfl rfl (by rw [hn]; simp_all) ?_
              refine l_pure S (p_pick_t rfl bc127 rfl) rfl rfl rfl ?_; clear S a; intro a S
              refine l_on S rfl rfl rfl rfl (by rw [hn]; simp_all) ?_
              refine l_pure S (p_beql Try.underlying4 rfl rfl) rfl rfl rfl ?_; clear S a; intro a S
              refine l_pure S (p_pick_t rfl (by rw [hn]; simp_all) rfl) rfl rfl rfl ?_; clear S a; intro a S
              refine l_pure S (p_move rfl) rfl rfl rfl ?_; clear S a; intro a S
              refine l_on S rfl rfl rfl rfl (by rw [he]; simp_all) ?_
              refine l_pure S (p_move rfl) rfl rfl rfl ?_; clear S a; intro a S
              refine l_on S rfl rfl rfl rfl (by rw [he]; simp_all) ?_
              refine l_pure S (p_not rfl) rfl rfl rfl ?_; clear S a; intro a S
              refine l_pure S (p_pick_t rfl (by rw [he]; simp_all) rfl) rfl rfl rfl ?_; clear S a; intro a S
              refine l_pure S (p_assign rfl) rfl rfl rfl ?_; clear S a; intro a S
              refine l_nil ?_
              refine e_then ?_
              refine wp_ret ?_
              first | exact r_ret1 S rfl rfl ⟨rfl, H.below⟩ | exact r_ret1 S rfl rfl ⟨by rw [hs]; rfl, H.below⟩
            · skip
              have c127 := bc127
              replace c127 := not_eq_false_ c127
              
              refine l_off S rfl rfl rfl rfl bc127 rfl rfl ?_; clear S a; intro a S
              refine l_off S rfl rfl rfl rfl bc127 rfl rfl ?_; clear S a; intro a S
              refine l_off S rfl rfl rfl rfl bc127 rfl rfl ?_; clear S a; intro a S
              refine l_off S rfl rfl rfl rfl bc127 rfl rfl ?_; clear S a; intro a S
              refine l_on S rfl rfl rfl rfl (by rw [hn]; simp_all) ?_
              refine l_pure S (p_pick_f rfl bc127 rfl) rfl rfl rfl ?_; clear S a; intro a S
              refine l_on S rfl rfl rfl rfl (by rw [hn]; simp_all) ?_
              refine l_pure S (p_beql Try.underlying4 rfl rfl) rfl rfl rfl ?_; clear S a; intro a S
              refine l_pure S (p_pick_t rfl (by rw [hn]; simp_all) rfl) rfl rfl rfl ?_; clear S a; intro a S
              refine l_pure S (p_move rfl) rfl rfl rfl ?_; clear S a; intro a S
              refine l_on S rfl rfl rfl rfl (by rw [he]; simp_all) ?_
              refine l_pure S (p_move rfl) rfl rfl rfl ?_; clear S a; intro a S
              refine l_on S rfl rfl rfl rfl (by rw [he]; simp_all) ?_
              refine l_pure S (p_not rfl) rfl rfl rfl ?_; clear S a; intro a S
              refine l_pure S (p_pick_t rfl (by rw [he]; simp_all) rfl) rfl rfl rfl ?_; clear S a; intro a S
              refine l_pure S (p_assign rfl) rfl rfl rfl ?_; clear S a; intro a S
              refine l_nil ?_
              refine e_then ?_
              refine wp_ret ?_
              first | exact r_ret1 S rfl rfl ⟨rfl, H.below⟩ | exact r_ret1 S rfl rfl ⟨by rw [hs]; rfl, H.below⟩
          · skip
            refine l_off S rfl rfl rfl rfl bc124 rfl rfl ?_; clear S a; intro a S
            refine l_off S rfl rfl rfl rfl bc124 rfl rfl ?_; clear S a; intro a S
            refine l_off S rfl rfl rfl rfl bc124 rfl rfl ?_; clear S a; intro a S
            refine l_on S rfl rfl rfl rfl (by rw [hn]; simp_all) ?_
            refine l_pure S (p_pick_f rfl bc124 rfl) rfl rfl rfl ?_; clear S a; intro a S
            refine l_on S rfl rfl rfl rfl (by rw [hn]; simp_all) ?_
            refine l_pure S (p_move rfl) rfl rfl rfl ?_; clear S a; intro a S
            refine l_off S rfl rfl rfl rfl rfl rfl rfl ?_; clear S a; intro a S
            refine l_off S rfl rfl rfl rfl rfl rfl rfl ?_; clear S a; intro a S
            refine l_off S rfl rfl rfl rfl rfl rfl rfl ?_; clear S a; intro a S
            refine l_off S rfl rfl rfl rfl rfl rfl rfl ?_; clear S a; intro a S
            refine l_on S rfl rfl rfl rfl (by rw [hn]; simp_all) ?_
            refine l_pure S (p_pick_f rfl rfl rfl) rfl rfl rfl ?_; clear S a; intro a S
            refine l_on S rfl rfl rfl rfl (by rw [hn]; simp_all) ?_
            refine l_pure S (p_beql Try.underlying4 rfl rfl) rfl rfl rfl ?_; clear S a; intro a S
            refine l_pure S (p_pick_t rfl (by rw [hn]; simp_all) rfl) rfl rfl rfl ?_; clear S a; intro a S
            refine l_pure S (p_move rfl) rfl rfl rfl ?_; clear S a; intro a S
            refine l_on S rfl rfl rfl rfl (by rw [he]; simp_all) ?_
            refine l_pure S (p_move rfl) rfl rfl rfl ?_; clear S a; intro a S
            refine l_on S rfl rfl rfl rfl (by rw [he]; simp_all) ?_
            refine l_pure S (p_not rfl) rfl rfl rfl ?_; clear S a; intro a S
            refine l_pure S (p_pick_t rfl (by rw [he]; simp_all) rfl) rfl rfl rfl ?_; clear S a; intro a S
            refine l_pure S (p_assign rfl) rfl rfl rfl ?_; clear S a; intro a S
            refine l_nil ?_
            refine e_then ?_
            refine wp_ret ?_
            first | exact r_ret1 S rfl rfl ⟨rfl, H.below⟩ | exact r_ret1 S rfl rfl ⟨by rw [hs]; rfl, H.below⟩
        · skip
          refine l_on S rfl rfl rfl rfl bc121 ?_
          refine l_pure S (p_fieldAddr rfl (fun w => fa43_0 w _ _)) rfl rfl rfl ?_; clear S a; intro a S
          refine l_on S rfl rfl rfl rfl bc121 ?_
          refine l_read S H (r_load rfl List.mem_cons_self rfl (fun w hc => ld1 ag5 hc)) rfl rfl rfl ?_; clear S a; intro a S
          refine l_on S rfl rfl rfl rfl bc121 ?_
          refine l_pure S (p_eql rfl rfl) rfl rfl rfl ?_; clear S a; intro a S
          refine l_on S rfl rfl rfl rfl rfl ?_
          refine l_pure S (p_pick_f rfl bc121 rfl) rfl rfl rfl ?_; clear S a; intro a S
          refine l_on S rfl rfl rfl rfl rfl ?_
          refine l_pure S (p_beql Try.underlying4 rfl rfl) rfl rfl rfl ?_; clear S a; intro a S
          refine l_pure S (p_pick_t rfl rfl rfl) rfl rfl rfl ?_; clear S a; intro a S
          refine l_pure S (p_move rfl) rfl rfl rfl ?_; clear S a; intro a S
          refine l_on S rfl rfl rfl rfl (by rw [hn]; simp_all) ?_
          refine l_pure S (p_move rfl) rfl rfl rfl ?_; clear S a; intro a S
          refine l_on S rfl rfl rfl rfl (by rw [hn]; simp_all) ?_
          refine l_pure S (p_move rfl) rfl rfl rfl ?_; clear S a; intro a S
          refine l_on S rfl rfl rfl rfl (by rw [hn]; simp_all) ?_
          refine l_pure S (p_move rfl) rfl rfl rfl ?_; clear S a; intro a S
          refine l_split (S.of 74 rfl) (fun bc140 => ?_) (fun bc140 => ?_)
          · skip
            refine l_on S rfl rfl rfl rfl bc140 ?_
            refine l_pure S (p_fieldAddr rfl (fun w => fa43_4 w _ _)) rfl rfl rfl ?_; clear S a; intro a S
            refine l_on S rfl rfl rfl rfl bc140 ?_
            refine l_read S H (r_load rfl List.mem_cons_self rfl (fun w hc => ld1 ag4 hc)) rfl rfl rfl ?_; clear S a; intro a S
            refine l_on S rfl rfl rfl rfl bc140 ?_
            refine l_pure S (p_not rfl) rfl rfl rfl ?_; clear S a; intro a S
            refine l_on S rfl rfl rfl rfl (by rw [hn]; simp_all) ?_
            refine l_pure S (p_pick_t rfl bc140 rfl) rfl rfl rfl ?_; clear S a; intro a S
            refine l_on S rfl rfl rfl rfl (by rw [hn]; simp_all) ?_
            refine l_pure S (p_move rfl) rfl rfl rfl ?_; clear S a; intro a S
            refine l_split (S.of 79 rfl) (fun bc143 => ?_) (fun bc143 => ?_)
            · skip
              have c143 := bc143
              replace c143 := not_eq_true_ c143
              
              refine l_on S rfl rfl rfl rfl bc143 ?_
              refine l_pure S (p_fieldAddr rfl (fun w => fa43_3 w _ _)) rfl rfl rfl ?_; clear S a; intro a S
              refine l_on S rfl rfl rfl rfl bc143 ?_
              refine l_read S H (r_load rfl List.mem_cons_self rfl (fun w hc => ld1 ag41 hc)) rfl rfl rfl ?_; clear S a; intro a S
              refine l_on S rfl rfl rfl rfl bc143 ?_
              refine l_pure S (p_builtin (xs := [_]) rfl (fun _ _ _ => rfl)) rfl rfl rfl ?_; clear S a; intro a S
              refine l_on S rfl rfl rfl rfl bc143 ?_
              refine l_pure S (p_eql rfl rfl) rfl rfl rfl ?_; clear S a; intro a S
              refine l_on S rfl rfl rfl rfl (by rw [hn]; simp_all) ?_
              refine l_pure S (p_pick_t rfl bc143 rfl) rfl rfl rfl ?_; clear S a; intro a S
              refine l_on S rfl rfl rfl rfl (by rw [hn]; simp_all) ?_
              refine l_pure S (p_beql Try.underlying4 rfl rfl) rfl rfl rfl ?_; clear S a; intro a S
              refine l_pure S (p_pick_t rfl (by rw [hn]; simp_all) rfl) rfl rfl rfl ?_; clear S a; intro a S
              refine l_pure S (p_move rfl) rfl rfl rfl ?_; clear S a; intro a S
              refine l_on S rfl rfl rfl rfl (by rw [he]; simp_all) ?_
              refine l_pure S (p_move rfl) rfl rfl rfl ?_; clear S a; intro a S
              refine l_on S rfl rfl rfl rfl (by rw [he]; simp_all) ?_
              refine l_pure S (p_not rfl) rfl rfl rfl ?_; clear S a; intro a S
              refine l_pure S (p_pick_t rfl (by rw [he]; simp_all) rfl) rfl rfl rfl ?_; clear S a; intro a S
              refine l_pure S (p_assign rfl) rfl rfl rfl ?_; clear S a; intro a S
              refine l_nil ?_
              refine e_then ?_
              refine wp_ret ?_
              first | exact r_ret1 S rfl rfl ⟨rfl, H.below⟩ | exact r_ret1 S rfl rfl ⟨by rw [hs]; rfl, H.below⟩
            · skip
              have c143 := bc143
              replace c143 := not_eq_false_ c143
              
              refine l_off S rfl rfl rfl rfl bc143 rfl rfl ?_; clear S a; intro a S
              refine l_off S rfl rfl rfl rfl bc143 rfl rfl ?_; clear S a; intro a S
              refine l_off S rfl rfl rfl rfl bc143 rfl rfl ?_; clear S a; intro a S
              refine l_off S rfl rfl rfl rfl bc143 rfl rfl ?_; clear S a; intro a S
              refine l_on S rfl rfl rfl rfl (by rw [hn]; simp_all) ?_
              refine l_pure S (p_pick_f rfl bc143 rfl) rfl rfl rfl ?_; clear S a; intro a S
              refine l_on S rfl rfl rfl rfl (by rw [hn]; simp_all) ?_
              refine l_pure S (p_beql Try.underlying4 rfl rfl) rfl rfl rfl ?_; clear S a; intro a S
              refine l_pure S (p_pick_t rfl (by rw [hn]; simp_all) rfl) rfl rfl rfl ?_; clear S a; intro a S
              refine l_pure S (p_move rfl) rfl rfl rfl ?_; clear S a; intro a S
              refine l_on S rfl rfl rfl rfl (by rw [he]; simp_all) ?_
              refine l_pure S (p_move rfl) rfl rfl rfl ?_; clear S a; intro a S
              refine l_on S rfl rfl rfl rfl (by rw [he]; simp_all) ?_
              refine l_pure S (p_not rfl) rfl rfl rfl ?_; clear S a; intro a S
              refine l_pure S (p_pick_t rfl (by rw [he]; simp_all) rfl) rfl rfl rfl ?_; clear S a; intro a S
              refine l_pure S (p_assign rfl) rfl rfl rfl ?_; clear S a; intro a S
              refine l_nil ?_
              refine e_then ?_
              refine wp_ret ?_
              first | exact r_ret1 S rfl rfl ⟨rfl, H.below⟩ | exact r_ret1 S rfl rfl ⟨by rw [hs]; rfl, H.below⟩
          · skip
            refine l_off S rfl rfl rfl rfl bc140 rfl rfl ?_; clear S a; intro a S
            refine l_off S rfl rfl rfl rfl bc140 rfl rfl ?_; clear S a; intro a S
            refine l_off S rfl rfl rfl rfl bc140 rfl rfl ?_; clear S a; intro a S
            refine l_on S rfl rfl rfl rfl (by rw [hn]; simp_all) ?_
            refine l_pure S (p_pick_f rfl bc140 rfl) rfl rfl rfl ?_; clear S a; intro a S
            refine l_on S rfl rfl rfl rfl (by rw [hn]; simp_all) ?_
            refine l_pure S (p_move rfl) rfl rfl rfl ?_; clear S a; intro a S
            refine l_off S rfl rfl rfl rfl rfl rfl rfl ?_; clear S a; intro a S
            refine l_off S rfl rfl rfl rfl rfl rfl rfl ?_; clear S a; intro a S
            refine l_off S rfl rfl rfl rfl rfl rfl rfl ?_; clear S a; intro a S
            refine l_off S rfl rfl rfl rfl rfl rfl rfl ?_; clear S a; intro a S
            refine l_on S rfl rfl rfl rfl (by rw [hn]; simp_all) ?_
            refine l_pure S (p_pick_f rfl rfl rfl) rfl rfl rfl ?_; clear S a; intro a S
            refine l_on S rfl rfl rfl rfl (by rw [hn]; simp_all) ?_
            refine l_pure S (p_beql Try.underlying4 rfl rfl) rfl rfl rfl ?_; clear S a; intro a S
            refine l_pure S (p_pick_t rfl (by rw [hn]; simp_all) rfl) rfl rfl rfl ?_; clear S a; intro a S
            refine l_pure S (p_move rfl) rfl rfl rfl ?_; clear S a; intro a S
            refine l_on S rfl rfl rfl rfl (by rw [he]; simp_all) ?_
            refine l_pure S (p_move rfl) rfl rfl rfl ?_; clear S a; intro a S
            refine l_on S rfl rfl rfl rfl (by rw [he]; simp_all) ?_
            refine l_pure S (p_not rfl) rfl rfl rfl ?_; clear S a; intro a S
            refine l_pure S (p_pick_t rfl (by rw [he]; simp_all) rfl) rfl rfl rfl ?_; clear S a; intro a S
            refine l_pure S (p_assign rfl) rfl rfl rfl ?_; clear S a; intro a S
            refine l_nil ?_
            refine e_then ?_
            refine wp_ret ?_
            first | exact r_ret1 S rfl rfl ⟨rfl, H.below⟩ | exact r_ret1 S rfl rfl ⟨by rw [hs]; rfl, H.below⟩
end Go.Proofs.Ytcjdadfiedoflaa.tells.law
