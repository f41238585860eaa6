/- FnRawTells: a value on the wire, walked. -/
import Derived.Test.YtcjdadfiedoflaaWire
namespace Go.Proofs.Ytcjdadfiedoflaa.tells.wr
open Go.RowKit Go.Proofs.HHW Go.Proofs.YtcjdadfiedoflaaW.PrintWords PFnRawTells
set_option linter.unusedVariables false
set_option linter.unusedSimpArgs false
theorem ag4 : aggB Try.prog 4 = some false := by kernel_rfl
theorem ag41 : aggB Try.prog 41 = some false := by kernel_rfl
theorem ag43 : aggB Try.prog 43 = some true := by kernel_rfl
theorem ag5 : aggB Try.prog 5 = some false := by kernel_rfl
theorem ag9 : aggB Try.prog 9 = some false := by kernel_rfl
theorem fa43_0 (w : World) (g o : Nat) : (Instr.fieldAt 43 (.pointer (some ⟨g, o, none⟩)) 0).run Try.prog w = .ok (.pointer (some ⟨g, o + 0, none⟩)) w := by kernel_rfl
theorem fa43_1 (w : World) (g o : Nat) : (Instr.fieldAt 43 (.pointer (some ⟨g, o, none⟩)) 1).run Try.prog w = .ok (.pointer (some ⟨g, o + 1, none⟩)) w := by kernel_rfl
theorem fa43_2 (w : World) (g o : Nat) : (Instr.fieldAt 43 (.pointer (some ⟨g, o, none⟩)) 2).run Try.prog w = .ok (.pointer (some ⟨g, o + 2, none⟩)) w := by kernel_rfl
theorem fa43_3 (w : World) (g o : Nat) : (Instr.fieldAt 43 (.pointer (some ⟨g, o, none⟩)) 3).run Try.prog w = .ok (.pointer (some ⟨g, o + 3, none⟩)) w := by kernel_rfl
theorem fa43_4 (w : World) (g o : Nat) : (Instr.fieldAt 43 (.pointer (some ⟨g, o, none⟩)) 4).run Try.prog w = .ok (.pointer (some ⟨g, o + 4, none⟩)) w := by kernel_rfl
theorem fa43_5 (w : World) (g o : Nat) : (Instr.fieldAt 43 (.pointer (some ⟨g, o, none⟩)) 5).run Try.prog w = .ok (.pointer (some ⟨g, o + 5, none⟩)) w := by kernel_rfl
theorem sz43 : szB Try.prog 43 = some 7 := by kernel_rfl
theorem sz5 : szB Try.prog 5 = some 1 := by kernel_rfl
theorem sz9 : szB Try.prog 9 = some 1 := by kernel_rfl
theorem zv43 : zvB Try.prog 43 = some (.agg #[.int .u8 0, .string ⟨#[]⟩, .string ⟨#[]⟩, .slice none 0 0, .bool false, .bool false, .slice none 0 0]) := by kernel_rfl
theorem zv5 : zvB Try.prog 5 = some (.int .u8 0) := by kernel_rfl
set_option maxHeartbeats 8000000 in
set_option maxRecDepth 100000 in
theorem wire22 (n : Nat) : ∀ (v : S43) (A3 : Option Addr) (cap3 : Nat) (A6 : Option Addr) (cap6 : Nat) (w0 : World) (hgood : good n v) (h3 : k43.C w0 A3 v.f3.length v.f3) (h6 : Kd.string.C w0 A6 v.f6.length v.f6),
    Calls Try.prog 22 #[.agg #[.int .u8 v.f0, .string v.f1, .string v.f2, .slice A3 v.f3.length cap3, .bool v.f4, .bool v.f5, .slice A6 v.f6.length cap6]] w0 fun e w' => e = .returned (.string (wireF n v)) ∧ Below w0.heap.size w0 w' := by
  induction n with
  | zero => intro v A3 cap3 A6 cap6 w0 hgood; exact hgood.elim
  | succ n ih =>
  intro v A3 cap3 A6 cap6 w0 hgood h3 h6
  obtain ⟨hf5, hz1, hz2, hz3, hz4, hz5⟩ := id hgood
  rw [hf5]
  have HZ4 := Aside0.mk hz4; clear hz4 hz5
  have hz : v.f1.size ≤ 1000 ∧ v.f2.size ≤ 1000 ∧ v.f3.length ≤ 40000 := ⟨hz1, hz2, hz3⟩
  have h3 := Aside0.mk h3; have h6 := Aside0.mk h6
  have H := HH.start w0
  refine c_enter (args := [.agg #[.int .u8 v.f0, .string v.f1, .string v.f2, .slice A3 v.f3.length cap3, .bool v.f4, .bool false, .slice A6 v.f6.length cap6]]) (k := 116) Try.func22 rfl rfl rfl (fun a S => ?_)
  refine wp_seq ?_
  refine c_region ?_
  refine l_box (cs := _) S H rfl rfl (fun w => bx) rfl rfl rfl ?_; clear S a H; intro g1 w a H S
  refine l_pure S (p_assign rfl) rfl rfl rfl ?_; clear S a; intro a S
  refine l_nil ?_
  refine e_then ?_
  refine wp_seq ?_
  refine c_region ?_
  refine l_pure S (p_fieldAddr rfl (fun w => fa43_0 w _ _)) rfl rfl rfl ?_; clear S a; intro a S
  refine l_read S H (r_load rfl List.mem_cons_self rfl (fun w hc => ld1 ag5 hc)) rfl rfl rfl ?_; clear S a; intro a S
  refine l_lit [.tmp 13] S H rfl rfl Try.underlying55 sz5 zv5 rfl rfl (by simp [Value.cells]) rfl rfl rfl ?_; clear S a H; intro g2 w a H S
  refine l_read S H (r_str (l := [v.f0]) rfl Try.underlying55 Try.underlying5 Try.underlying9 (fun w H => (RB.of (l := [v.f0]) H List.mem_cons_self (by intro i u hi; rcases i with _ | i <;> simp at hi <;> subst hi <;> rfl)).C (by simp))) rfl rfl rfl ?_; clear S a; intro a S
  replace H := H.tail
  refine l_pure S (p_assign rfl) rfl rfl rfl ?_; clear S a; intro a S
  refine l_nil ?_
  refine e_then ?_
  refine wp_seq ?_
  refine c_region ?_
  refine l_pure S (p_fieldAddr rfl (fun w => fa43_0 w _ _)) rfl rfl rfl ?_; clear S a; intro a S
  refine l_read S H (r_load rfl List.mem_cons_self rfl (fun w hc => ld1 ag5 hc)) rfl rfl rfl ?_; clear S a; intro a S
  refine l_call S rfl rfl Try.func23 rfl rfl (PFnRawTells.spec_Many.calls 5 v.f0 _ _ _ (many_f v.f0)) rfl rfl rfl ?_
  rintro e w ⟨rfl, hd⟩
  refine ⟨_, rfl, ?_⟩; clear S a; intro a S
  replace H := H.later hd.below; clear hd
  refine l_pure S (p_move rfl) rfl rfl rfl ?_; clear S a; intro a S
  refine l_pure S (p_extract rfl rfl) rfl rfl rfl ?_; clear S a; intro a S
  refine l_pure S (p_extract rfl rfl) rfl rfl rfl ?_; clear S a; intro a S
  refine l_pure S (p_assign rfl) rfl rfl rfl ?_; clear S a; intro a S
  refine l_pure S (p_assign rfl) rfl rfl rfl ?_; clear S a; intro a S
  refine l_nil ?_
  refine e_then ?_
  refine wp_seq ?_
  refine wp_block ?_
  refine wp_seq ?_
  refine c_region ?_
  refine l_pure S (p_fieldAddr rfl (fun w => fa43_4 w _ _)) rfl rfl rfl ?_; clear S a; intro a S
  refine l_read S H (r_load rfl List.mem_cons_self rfl (fun w hc => ld1 ag4 hc)) rfl rfl rfl ?_; clear S a; intro a S
  refine l_pure S (p_assign rfl) rfl rfl rfl ?_; clear S a; intro a S
  refine l_nil ?_
  refine e_then ?_
  refine c_cond S rfl (fun c5 => ?_) (fun c5 => ?_)
  · skip
    refine wp_seq ?_
    refine c_region ?_
    refine l_pure S (p_move rfl) rfl rfl rfl ?_; clear S a; intro a S
    refine l_pure S (p_sadd rfl rfl (by simp only [ByteArray.size_append, strOfNums_size, List.length_singleton]; have e1_ : (⟨#[45, 49]⟩ : ByteArray).size = 2 := rfl; have e2_ : (⟨#[13, 10]⟩ : ByteArray).size = 2 := rfl; have e3_ : (⟨#[58]⟩ : ByteArray).size = 1 := rfl; omega)) rfl rfl rfl ?_; clear S a; intro a S
    refine l_pure S (p_sadd rfl rfl (by simp only [ByteArray.size_append, strOfNums_size, List.length_singleton]; have e1_ : (⟨#[45, 49]⟩ : ByteArray).size = 2 := rfl; have e2_ : (⟨#[13, 10]⟩ : ByteArray).size = 2 := rfl; have e3_ : (⟨#[58]⟩ : ByteArray).size = 1 := rfl; omega)) rfl rfl rfl ?_; clear S a; intro a S
    refine l_pure S (p_assign rfl) rfl rfl rfl ?_; clear S a; intro a S
    refine l_nil ?_
    refine e_then ?_
    refine wp_ret ?_
    refine e_in_ret ?_
    refine e_then_ret ?_
    exact r_ret1 S rfl rfl ⟨by exact congrArg (fun z => Ending.returned (.string z)) (wire_null (by assumption)).symm, H.below⟩
  · skip
    refine wp_seq ?_
    refine c_region ?_
    refine l_pure S (p_fieldAddr rfl (fun w => fa43_0 w _ _)) rfl rfl rfl ?_; clear S a; intro a S
    refine l_read S H (r_load rfl List.mem_cons_self rfl (fun w hc => ld1 ag5 hc)) rfl rfl rfl ?_; clear S a; intro a S
    refine l_pure S (p_eql rfl rfl) rfl rfl rfl ?_; clear S a; intro a S
    refine l_pure S (p_move rfl) rfl rfl rfl ?_; clear S a; intro a S
    refine l_split (S.of 32 rfl) (fun bc7 => ?_) (fun bc7 => ?_)
    · skip
      have c7 := bc7
      have c7 := eq_of_beq c7
      refine l_on S rfl rfl rfl rfl bc7 ?_
      refine l_pure S (p_fieldAddr rfl (fun w => fa43_5 w _ _)) rfl rfl rfl ?_; clear S a; intro a S
      refine l_on S rfl rfl rfl rfl bc7 ?_
      refine l_read S H (r_load rfl List.mem_cons_self rfl (fun w hc => ld1 ag4 hc)) rfl rfl rfl ?_; clear S a; intro a S
      refine l_pure S (p_pick_t rfl bc7 rfl) rfl rfl rfl ?_; clear S a; intro a S
      refine l_pure S (p_assign rfl) rfl rfl rfl ?_; clear S a; intro a S
      refine l_nil ?_
      refine e_then ?_
      refine c_cond (b := false) S rfl (fun h => by cases h) (fun _ => ?_)
      refine wp_seq ?_
      refine c_region ?_
      refine l_pure S (p_fieldAddr rfl (fun w => fa43_0 w _ _)) rfl rfl rfl ?_; clear S a; intro a S
      refine l_read S H (r_load rfl List.mem_cons_self rfl (fun w hc => ld1 ag5 hc)) rfl rfl rfl ?_; clear S a; intro a S
      refine l_pure S (p_eql rfl rfl) rfl rfl rfl ?_; clear S a; intro a S
      refine l_pure S (p_assign rfl) rfl rfl rfl ?_; clear S a; intro a S
      refine l_nil ?_
      refine e_then ?_
      refine c_cond S rfl (fun c11 => ?_) (fun c11 => ?_)
      · skip
        have c11 := eq_of_beq c11
        refine wp_seq ?_
        refine c_region ?_
        refine l_pure S (p_fieldAddr rfl (fun w => fa43_2 w _ _)) rfl rfl rfl ?_; clear S a; intro a S
        refine l_read S H (r_load rfl List.mem_cons_self rfl (fun w hc => ld1 ag9 hc)) rfl rfl rfl ?_; clear S a; intro a S
        refine l_pure S (p_sadd rfl rfl (by simp only [ByteArray.size_append, strOfNums_size, List.length_singleton]; have e1_ : (⟨#[45, 49]⟩ : ByteArray).size = 2 := rfl; have e2_ : (⟨#[13, 10]⟩ : ByteArray).size = 2 := rfl; have e3_ : (⟨#[58]⟩ : ByteArray).size = 1 := rfl; omega)) rfl rfl rfl ?_; clear S a; intro a S
        refine l_pure S (p_fieldAddr rfl (fun w => fa43_1 w _ _)) rfl rfl rfl ?_; clear S a; intro a S
        refine l_read S H (r_load rfl List.mem_cons_self rfl (fun w hc => ld1 ag9 hc)) rfl rfl rfl ?_; clear S a; intro a S
        refine l_pure S (p_sadd rfl rfl (by simp only [ByteArray.size_append, strOfNums_size, List.length_singleton]; have e1_ : (⟨#[45, 49]⟩ : ByteArray).size = 2 := rfl; have e2_ : (⟨#[13, 10]⟩ : ByteArray).size = 2 := rfl; have e3_ : (⟨#[58]⟩ : ByteArray).size = 1 := rfl; omega)) rfl rfl rfl ?_; clear S a; intro a S
        have hcon := wire40 61 (v.f2 ++ ⟨#[58]⟩ ++ v.f1) w (fit3 hz1 hz2)
        refine l_call S rfl rfl Try.func40 rfl rfl (hcon) rfl rfl rfl ?_
        rintro e w ⟨rfl, hb⟩
        refine ⟨_, rfl, ?_⟩; clear S a; intro a S
        replace H := H.later hb; clear hb hcon
        refine l_pure S (p_assign rfl) rfl rfl rfl ?_; clear S a; intro a S
        refine l_nil ?_
        refine e_then ?_
        refine wp_ret ?_
        refine e_in_ret ?_
        refine e_then_ret ?_
        exact r_ret1 S rfl rfl ⟨by exact congrArg (fun z => Ending.returned (.string z)) (wire_eq (by assumption) (by assumption)).symm, H.below⟩
      · skip
        have c11 := ne_of_beq_false c11
        refine wp_seq ?_
        refine c_region ?_
        refine l_pure S (p_fieldAddr rfl (fun w => fa43_0 w _ _)) rfl rfl rfl ?_; clear S a; intro a S
        refine l_read S H (r_load rfl List.mem_cons_self rfl (fun w hc => ld1 ag5 hc)) rfl rfl rfl ?_; clear S a; intro a S
        refine l_call S rfl rfl Try.func41 rfl rfl (PFnRawTells.spec_Blob.calls v.f0 _ _ (blob_f v.f0)) rfl rfl rfl ?_
        rintro e w ⟨rfl, hd⟩
        refine ⟨_, rfl, ?_⟩; clear S a; intro a S
        replace H := H.later hd.below; clear hd
        refine l_pure S (p_assign rfl) rfl rfl rfl ?_; clear S a; intro a S
        refine l_nil ?_
        refine e_then ?_
        refine c_cond S rfl (fun c13 => ?_) (fun c13 => ?_)
        · skip
          refine wp_seq ?_
          refine c_region ?_
          refine l_pure S (p_fieldAddr rfl (fun w => fa43_0 w _ _)) rfl rfl rfl ?_; clear S a; intro a S
          refine l_read S H (r_load rfl List.mem_cons_self rfl (fun w hc => ld1 ag5 hc)) rfl rfl rfl ?_; clear S a; intro a S
          refine l_pure S (p_fieldAddr rfl (fun w => fa43_1 w _ _)) rfl rfl rfl ?_; clear S a; intro a S
          refine l_read S H (r_load rfl List.mem_cons_self rfl (fun w hc => ld1 ag9 hc)) rfl rfl rfl ?_; clear S a; intro a S
          have hcon := wire40 v.f0 v.f1 w (Nat.le_trans hz1 (by decide))
          refine l_call S rfl rfl Try.func40 rfl rfl (hcon) rfl rfl rfl ?_
          rintro e w ⟨rfl, hb⟩
          refine ⟨_, rfl, ?_⟩; clear S a; intro a S
          replace H := H.later hb; clear hb hcon
          refine l_pure S (p_assign rfl) rfl rfl rfl ?_; clear S a; intro a S
          refine l_nil ?_
          refine e_then ?_
          refine wp_ret ?_
          refine e_in_ret ?_
          refine e_then_ret ?_
          exact r_ret1 S rfl rfl ⟨by exact congrArg (fun z => Ending.returned (.string z)) (wire_blob (by assumption) (by assumption) (by assumption)).symm, H.below⟩
        · skip
          refine wp_seq ?_
          refine c_region ?_
          refine l_pure S (p_move rfl) rfl rfl rfl ?_; clear S a; intro a S
          refine l_pure S (p_not rfl) rfl rfl rfl ?_; clear S a; intro a S
          refine l_pure S (p_assign rfl) rfl rfl rfl ?_; clear S a; intro a S
          refine l_nil ?_
          refine e_then ?_
          refine c_cond S rfl (fun c15 => ?_) (fun c15 => ?_)
          · skip
            replace c15 := not_eq_true_ c15
            
            refine wp_seq ?_
            refine c_region ?_
            refine l_pure S (p_move rfl) rfl rfl rfl ?_; clear S a; intro a S
            refine l_pure S (p_fieldAddr rfl (fun w => fa43_1 w _ _)) rfl rfl rfl ?_; clear S a; intro a S
            refine l_read S H (r_load rfl List.mem_cons_self rfl (fun w hc => ld1 ag9 hc)) rfl rfl rfl ?_; clear S a; intro a S
            refine l_pure S (p_sadd rfl rfl (by simp only [ByteArray.size_append, strOfNums_size, List.length_singleton]; have e1_ : (⟨#[45, 49]⟩ : ByteArray).size = 2 := rfl; have e2_ : (⟨#[13, 10]⟩ : ByteArray).size = 2 := rfl; have e3_ : (⟨#[58]⟩ : ByteArray).size = 1 := rfl; omega)) rfl rfl rfl ?_; clear S a; intro a S
            refine l_pure S (p_sadd rfl rfl (by simp only [ByteArray.size_append, strOfNums_size, List.length_singleton]; have e1_ : (⟨#[45, 49]⟩ : ByteArray).size = 2 := rfl; have e2_ : (⟨#[13, 10]⟩ : ByteArray).size = 2 := rfl; have e3_ : (⟨#[58]⟩ : ByteArray).size = 1 := rfl; omega)) rfl rfl rfl ?_; clear S a; intro a S
            refine l_pure S (p_assign rfl) rfl rfl rfl ?_; clear S a; intro a S
            refine l_nil ?_
            refine e_then ?_
            refine wp_ret ?_
            refine e_in_ret ?_
            refine e_then_ret ?_
            exact r_ret1 S rfl rfl ⟨by exact congrArg (fun z => Ending.returned (.string z)) (wire_line (by assumption) (by assumption) (by assumption) (by assumption)).symm, H.below⟩
          · skip
            replace c15 := not_eq_false_ c15
            
            refine wp_skip ?_
            refine e_in 0 ?_
            refine e_then ?_
            refine wp_seq ?_
            refine c_region ?_
            refine l_pure S (p_move rfl) rfl rfl rfl ?_; clear S a; intro a S
            refine l_pure S (p_fieldAddr rfl (fun w => fa43_3 w _ _)) rfl rfl rfl ?_; clear S a; intro a S
            refine l_read S H (r_load rfl List.mem_cons_self rfl (fun w hc => ld1 ag41 hc)) rfl rfl rfl ?_; clear S a; intro a S
            refine l_pure S (p_builtin (xs := [_]) rfl (fun _ _ _ => rfl)) rfl rfl rfl ?_; clear S a; intro a S
            refine l_pure S (p_move rfl) rfl rfl rfl ?_; clear S a; intro a S
            have hmy : (manyOf v.f0).2 = true := by assumption
            have hpos : (manyOf v.f0).1 = 1 ∨ (manyOf v.f0).1 = 2 := many_pos hmy
            have hquo : IntKind.i64.wrap ((v.f3.length : Int).tdiv (manyOf v.f0).1) = ((v.f3.length / (manyOf v.f0).1.toNat : Nat) : Int) := by
              rw [Int.tdiv_eq_ediv_of_nonneg (by omega)]
              rcases hpos with e | e <;> rw [e] <;> exact (IntWalk.i64_in _ (by omega)).trans (by simp)
            refine l_pure S (p_quo (r := ((v.f3.length / (manyOf v.f0).1.toNat : Nat) : Int)) rfl rfl (by omega) hquo) rfl rfl rfl ?_; clear S a; intro a S
            have hdle := Nat.div_le_self v.f3.length (manyOf v.f0).1.toNat
            refine l_pure S (p_conv rfl (fun w => cv_int (r := ((v.f3.length / (manyOf v.f0).1.toNat : Nat) : Int)) Try.underlying3 Try.underlying22 (u64n _ (Nat.le_trans hdle (by omega))))) rfl rfl rfl ?_; clear S a; intro a S
            have hcon := wire42 (v.f3.length / (manyOf v.f0).1.toNat) w (Nat.le_trans (Nat.div_le_self _ _) (Nat.le_trans hz3 (by decide)))
            refine l_call S rfl rfl Try.func42 rfl rfl (hcon) rfl rfl rfl ?_
            rintro e w ⟨rfl, hb⟩
            refine ⟨_, rfl, ?_⟩; clear S a; intro a S
            replace H := H.later hb; clear hb hcon
            refine l_pure S (p_sadd rfl rfl (by simp only [ByteArray.size_append, strOfNums_size, List.length_singleton]; have e1_ : (⟨#[45, 49]⟩ : ByteArray).size = 2 := rfl; have e2_ : (⟨#[13, 10]⟩ : ByteArray).size = 2 := rfl; have e3_ : (⟨#[58]⟩ : ByteArray).size = 1 := rfl; have hds_ := digs_size (v.f3.length / (manyOf v.f0).1.toNat); have hdle_ := Nat.div_le_self v.f3.length (manyOf v.f0).1.toNat; omega)) rfl rfl rfl ?_; clear S a; intro a S
            refine l_pure S (p_sadd rfl rfl (by simp only [ByteArray.size_append, strOfNums_size, List.length_singleton]; have e1_ : (⟨#[45, 49]⟩ : ByteArray).size = 2 := rfl; have e2_ : (⟨#[13, 10]⟩ : ByteArray).size = 2 := rfl; have e3_ : (⟨#[58]⟩ : ByteArray).size = 1 := rfl; have hds_ := digs_size (v.f3.length / (manyOf v.f0).1.toNat); have hdle_ := Nat.div_le_self v.f3.length (manyOf v.f0).1.toNat; omega)) rfl rfl rfl ?_; clear S a; intro a S
            refine l_pure S (p_assign rfl) rfl rfl rfl ?_; clear S a; intro a S
            refine l_nil ?_
            refine e_then ?_
            refine wp_seq ?_
            refine wp_seq ?_
            refine c_region ?_
            refine l_pure S (p_fieldAddr rfl (fun w => fa43_5 w _ _)) rfl rfl rfl ?_; clear S a; intro a S
            refine l_read S H (r_load rfl List.mem_cons_self rfl (fun w hc => ld1 ag4 hc)) rfl rfl rfl ?_; clear S a; intro a S
            refine l_nil ?_
            refine e_then ?_
            refine c_cond (b := false) S rfl (fun h => by cases h) (fun _ => ?_)
            refine wp_skip ?_
            refine e_then ?_
            refine wp_seq ?_
            refine wp_seq ?_
            refine c_region ?_
            refine l_pure S (p_fieldAddr rfl (fun w => fa43_3 w _ _)) rfl rfl rfl ?_; clear S a; intro a S
            refine l_read S H (r_load rfl List.mem_cons_self rfl (fun w hc => ld1 ag41 hc)) rfl rfl rfl ?_; clear S a; intro a S
            refine l_pure S (p_builtin (xs := [_]) rfl (fun _ _ _ => rfl)) rfl rfl rfl ?_; clear S a; intro a S
            refine l_pure S (p_move rfl) rfl rfl rfl ?_; clear S a; intro a S
            refine l_nil ?_
            refine e_then ?_
            refine wp_block ?_
            obtain ⟨W0, hW0⟩ : ∃ W0, W0 = strOfNums [v.f0] ++ digs (v.f3.length / (manyOf v.f0).1.toNat) ++ CRLF := ⟨_, rfl⟩
            have e9 : strOfNums [v.f0] ++ digs (v.f3.length / (manyOf v.f0).1.toNat) ++ ⟨#[13, 10]⟩ = kidsW (wireF n) (v.f3.take 0) W0 := by rw [hW0]; rfl
            rw [e9] at S
            have hwe : wireF (n + 1) v = kidsW (wireF n) v.f3 W0 := by rw [hW0]; exact wire_many (by assumption) (by assumption) (by assumption) (by assumption)
            have HWS := Aside0.mk (show (kidsW (wireF n) v.f3 W0).size ≤ 1000000000 by rw [← hwe]; exact HZ4.out)
            refine c_loop (σ := Nat) (fun s_ a w => match s_ with | j => SL a 117 [] [(1, .pointer (some ⟨g1, 0, none⟩)), (9, .string (kidsW (wireF n) (v.f3.take j) W0)), (101, .slice A3 v.f3.length cap3), (102, .int .i64 (v.f3.length : Int)), (103, .int .i64 (j : Int))] ∧ HH (w0.heap.size) w0 w [(g1, .cells #[.int .u8 v.f0, .string v.f1, .string v.f2, .slice A3 v.f3.length cap3, .bool v.f4, .bool false, .slice A6 v.f6.length cap6] 43 (0, 0))] ∧ (j ≤ v.f3.length)) (fun s_ => match s_ with | j => v.f3.length - j) 0 ⟨S.only ⟨rfl, rfl, rfl, rfl, rfl, trivial⟩, H, Nat.zero_le _⟩ ?_
            clear S a H; rintro j a w ⟨S, H, hinv⟩
            refine wp_seq ?_
            refine c_region ?_
            refine l_pure S (p_lss rfl rfl) rfl rfl rfl ?_; clear S a; intro a S
            refine l_nil ?_
            refine e_then ?_
            refine wp_seq ?_
            refine c_cond S rfl (fun c19 => ?_) (fun c19 => ?_)
            · skip
              have c19 := of_decide_eq_true c19
              refine wp_skip ?_
              refine e_then ?_
              refine wp_seq ?_
              refine wp_block ?_
              refine wp_seq ?_
              refine c_region ?_
              obtain ⟨ad, hA3⟩ := C_some h3.out (by omega : j < v.f3.length)
              subst hA3
              obtain ⟨cs, hK, hrd⟩ := row_agg (P := Try.prog) (t := 43) h3.out (get_some z43 (by omega : j < v.f3.length)) sz43 ag43
              obtain ⟨B3, d3, B6, d6, rfl, hl3, hc3, hl6, hc6⟩ := k43_open hK
              clear hK
              refine l_pure S (p_indexAddr rfl rfl (fun w => ia_any Try.underlying41 sz43 (by omega) (by omega))) rfl rfl rfl ?_; clear S a; intro a S
              refine l_read S H (hrd _ _ _ _ rfl (by show (j : Int).toNat * 7 = j * 7; omega)) rfl rfl rfl ?_; clear S a; intro a S
              refine l_alloc (cs := _) S H rfl (fun w => al zv43) rfl rfl rfl ?_; clear S a H; intro g20 w a H S
              refine l_storeAll S H rfl rfl rfl sz43 .here rfl (by simp [Value.oneCell']) rfl rfl ?_; clear S a H; intro w a H S
              refine l_nil ?_
              refine e_then ?_
              refine c_region ?_
              refine l_pure S (p_move rfl) rfl rfl rfl ?_; clear S a; intro a S
              refine l_read S H (r_loadn (m := 7) rfl List.mem_cons_self ag43 sz43 rfl rfl) rfl rfl rfl ?_; clear S a; intro a S
              refine l_call S rfl rfl Try.func22 rfl rfl (ih (v.f3.getD j z43) _ _ _ _ _ (good_kid hgood (by omega)) (C_old hc3 H) (C_old hc6 H)) rfl rfl rfl ?_
              rintro e w ⟨rfl, hb⟩
              refine ⟨_, rfl, ?_⟩; clear S a; intro a S
              replace H := (H.later hb).tail; clear hb
              refine l_pure S (p_sadd rfl rfl (kids_fit (by omega) HWS.out)) rfl rfl rfl ?_; clear S a; intro a S
              refine l_pure S (p_assign rfl) rfl rfl rfl ?_; clear S a; intro a S
              rw [← kidsW_succ _ (by omega : j < v.f3.length)] at S
              refine l_nil ?_
              refine e_in 4 ?_
              refine e_then ?_
              refine c_region ?_
              refine l_pure S (p_add (r := _) rfl rfl (IntWalk.i64_in _ (by omega))) rfl rfl rfl ?_; clear S a; intro a S
              refine l_pure S (p_move rfl) rfl rfl rfl ?_; clear S a; intro a S
              refine l_nil ?_
              refine e_then ?_
              exact ⟨(j + 1), ⟨S.only ⟨rfl, rfl, rfl, rfl, rfl, trivial⟩, H, by omega⟩, by show v.f3.length - (j + 1) < v.f3.length - j; omega⟩
            · skip
              have c19 := of_decide_eq_false c19
              refine wp_exit ?_
              refine e_then_exit ?_
              refine e_then_exit ?_
              refine e_in_exit ?_
              refine e_then ?_
              refine wp_seq ?_
              refine wp_seq ?_
              refine c_region ?_
              refine l_pure S (p_fieldAddr rfl (fun w => fa43_5 w _ _)) rfl rfl rfl ?_; clear S a; intro a S
              refine l_read S H (r_load rfl List.mem_cons_self rfl (fun w hc => ld1 ag4 hc)) rfl rfl rfl ?_; clear S a; intro a S
              refine l_nil ?_
              refine e_then ?_
              refine c_cond (b := false) S rfl (fun h => by cases h) (fun _ => ?_)
              refine wp_skip ?_
              refine e_then ?_
              refine wp_seq ?_
              refine c_region ?_
              refine l_pure S (p_move rfl) rfl rfl rfl ?_; clear S a; intro a S
              refine l_pure S (p_assign rfl) rfl rfl rfl ?_; clear S a; intro a S
              refine l_nil ?_
              refine e_then ?_
              refine wp_ret ?_
              exact r_ret1 S rfl rfl ⟨by rw [hwe, List.take_of_length_le (show v.f3.length ≤ j by omega)], H.below⟩
    · skip
      have c7 := bc7
      have c7 := ne_of_beq_false c7
      refine l_off S rfl rfl rfl rfl bc7 rfl rfl ?_; clear S a; intro a S
      refine l_off S rfl rfl rfl rfl bc7 rfl rfl ?_; clear S a; intro a S
      refine l_pure S (p_pick_f rfl bc7 rfl) rfl rfl rfl ?_; clear S a; intro a S
      refine l_pure S (p_assign rfl) rfl rfl rfl ?_; clear S a; intro a S
      refine l_nil ?_
      refine e_then ?_
      refine c_cond (b := false) S rfl (fun h => by cases h) (fun _ => ?_)
      refine wp_seq ?_
      refine c_region ?_
      refine l_pure S (p_fieldAddr rfl (fun w => fa43_0 w _ _)) rfl rfl rfl ?_; clear S a; intro a S
      refine l_read S H (r_load rfl List.mem_cons_self rfl (fun w hc => ld1 ag5 hc)) rfl rfl rfl ?_; clear S a; intro a S
      refine l_pure S (p_eql rfl rfl) rfl rfl rfl ?_; clear S a; intro a S
      refine l_pure S (p_assign rfl) rfl rfl rfl ?_; clear S a; intro a S
      refine l_nil ?_
      refine e_then ?_
      refine c_cond S rfl (fun c26 => ?_) (fun c26 => ?_)
      · skip
        have c26 := eq_of_beq c26
        refine wp_seq ?_
        refine c_region ?_
        refine l_pure S (p_fieldAddr rfl (fun w => fa43_2 w _ _)) rfl rfl rfl ?_; clear S a; intro a S
        refine l_read S H (r_load rfl List.mem_cons_self rfl (fun w hc => ld1 ag9 hc)) rfl rfl rfl ?_; clear S a; intro a S
        refine l_pure S (p_sadd rfl rfl (by simp only [ByteArray.size_append, strOfNums_size, List.length_singleton]; have e1_ : (⟨#[45, 49]⟩ : ByteArray).size = 2 := rfl; have e2_ : (⟨#[13, 10]⟩ : ByteArray).size = 2 := rfl; have e3_ : (⟨#[58]⟩ : ByteArray).size = 1 := rfl; omega)) rfl rfl rfl ?_; clear S a; intro a S
        refine l_pure S (p_fieldAddr rfl (fun w => fa43_1 w _ _)) rfl rfl rfl ?_; clear S a; intro a S
        refine l_read S H (r_load rfl List.mem_cons_self rfl (fun w hc => ld1 ag9 hc)) rfl rfl rfl ?_; clear S a; intro a S
        refine l_pure S (p_sadd rfl rfl (by simp only [ByteArray.size_append, strOfNums_size, List.length_singleton]; have e1_ : (⟨#[45, 49]⟩ : ByteArray).size = 2 := rfl; have e2_ : (⟨#[13, 10]⟩ : ByteArray).size = 2 := rfl; have e3_ : (⟨#[58]⟩ : ByteArray).size = 1 := rfl; omega)) rfl rfl rfl ?_; clear S a; intro a S
        have hcon := wire40 61 (v.f2 ++ ⟨#[58]⟩ ++ v.f1) w (fit3 hz1 hz2)
        refine l_call S rfl rfl Try.func40 rfl rfl (hcon) rfl rfl rfl ?_
        rintro e w ⟨rfl, hb⟩
        refine ⟨_, rfl, ?_⟩; clear S a; intro a S
        replace H := H.later hb; clear hb hcon
        refine l_pure S (p_assign rfl) rfl rfl rfl ?_; clear S a; intro a S
        refine l_nil ?_
        refine e_then ?_
        refine wp_ret ?_
        refine e_in_ret ?_
        refine e_then_ret ?_
        exact r_ret1 S rfl rfl ⟨by exact congrArg (fun z => Ending.returned (.string z)) (wire_eq (by assumption) (by assumption)).symm, H.below⟩
      · skip
        have c26 := ne_of_beq_false c26
        refine wp_seq ?_
        refine c_region ?_
        refine l_pure S (p_fieldAddr rfl (fun w => fa43_0 w _ _)) rfl rfl rfl ?_; clear S a; intro a S
        refine l_read S H (r_load rfl List.mem_cons_self rfl (fun w hc => ld1 ag5 hc)) rfl rfl rfl ?_; clear S a; intro a S
        refine l_call S rfl rfl Try.func41 rfl rfl (PFnRawTells.spec_Blob.calls v.f0 _ _ (blob_f v.f0)) rfl rfl rfl ?_
        rintro e w ⟨rfl, hd⟩
        refine ⟨_, rfl, ?_⟩; clear S a; intro a S
        replace H := H.later hd.below; clear hd
        refine l_pure S (p_assign rfl) rfl rfl rfl ?_; clear S a; intro a S
        refine l_nil ?_
        refine e_then ?_
        refine c_cond S rfl (fun c28 => ?_) (fun c28 => ?_)
        · skip
          refine wp_seq ?_
          refine c_region ?_
          refine l_pure S (p_fieldAddr rfl (fun w => fa43_0 w _ _)) rfl rfl rfl ?_; clear S a; intro a S
          refine l_read S H (r_load rfl List.mem_cons_self rfl (fun w hc => ld1 ag5 hc)) rfl rfl rfl ?_; clear S a; intro a S
          refine l_pure S (p_fieldAddr rfl (fun w => fa43_1 w _ _)) rfl rfl rfl ?_; clear S a; intro a S
          refine l_read S H (r_load rfl List.mem_cons_self rfl (fun w hc => ld1 ag9 hc)) rfl rfl rfl ?_; clear S a; intro a S
          have hcon := wire40 v.f0 v.f1 w (Nat.le_trans hz1 (by decide))
          refine l_call S rfl rfl Try.func40 rfl rfl (hcon) rfl rfl rfl ?_
          rintro e w ⟨rfl, hb⟩
          refine ⟨_, rfl, ?_⟩; clear S a; intro a S
          replace H := H.later hb; clear hb hcon
          refine l_pure S (p_assign rfl) rfl rfl rfl ?_; clear S a; intro a S
          refine l_nil ?_
          refine e_then ?_
          refine wp_ret ?_
          refine e_in_ret ?_
          refine e_then_ret ?_
          exact r_ret1 S rfl rfl ⟨by exact congrArg (fun z => Ending.returned (.string z)) (wire_blob (by assumption) (by assumption) (by assumption)).symm, H.below⟩
        · skip
          refine wp_seq ?_
          refine c_region ?_
          refine l_pure S (p_move rfl) rfl rfl rfl ?_; clear S a; intro a S
          refine l_pure S (p_not rfl) rfl rfl rfl ?_; clear S a; intro a S
          refine l_pure S (p_assign rfl) rfl rfl rfl ?_; clear S a; intro a S
          refine l_nil ?_
          refine e_then ?_
          refine c_cond S rfl (fun c30 => ?_) (fun c30 => ?_)
          · skip
            replace c30 := not_eq_true_ c30
            
            refine wp_seq ?_
            refine c_region ?_
            refine l_pure S (p_move rfl) rfl rfl rfl ?_; clear S a; intro a S
            refine l_pure S (p_fieldAddr rfl (fun w => fa43_1 w _ _)) rfl rfl rfl ?_; clear S a; intro a S
            refine l_read S H (r_load rfl List.mem_cons_self rfl (fun w hc => ld1 ag9 hc)) rfl rfl rfl ?_; clear S a; intro a S
            refine l_pure S (p_sadd rfl rfl (by simp only [ByteArray.size_append, strOfNums_size, List.length_singleton]; have e1_ : (⟨#[45, 49]⟩ : ByteArray).size = 2 := rfl; have e2_ : (⟨#[13, 10]⟩ : ByteArray).size = 2 := rfl; have e3_ : (⟨#[58]⟩ : ByteArray).size = 1 := rfl; omega)) rfl rfl rfl ?_; clear S a; intro a S
            refine l_pure S (p_sadd rfl rfl (by simp only [ByteArray.size_append, strOfNums_size, List.length_singleton]; have e1_ : (⟨#[45, 49]⟩ : ByteArray).size = 2 := rfl; have e2_ : (⟨#[13, 10]⟩ : ByteArray).size = 2 := rfl; have e3_ : (⟨#[58]⟩ : ByteArray).size = 1 := rfl; omega)) rfl rfl rfl ?_; clear S a; intro a S
            refine l_pure S (p_assign rfl) rfl rfl rfl ?_; clear S a; intro a S
            refine l_nil ?_
            refine e_then ?_
            refine wp_ret ?_
            refine e_in_ret ?_
            refine e_then_ret ?_
            exact r_ret1 S rfl rfl ⟨by exact congrArg (fun z => Ending.returned (.string z)) (wire_line (by assumption) (by assumption) (by assumption) (by assumption)).symm, H.below⟩
          · skip
            replace c30 := not_eq_false_ c30
            
            refine wp_skip ?_
            refine e_in 0 ?_
            refine e_then ?_
            refine wp_seq ?_
            refine c_region ?_
            refine l_pure S (p_move rfl) rfl rfl rfl ?_; clear S a; intro a S
            refine l_pure S (p_fieldAddr rfl (fun w => fa43_3 w _ _)) rfl rfl rfl ?_; clear S a; intro a S
            refine l_read S H (r_load rfl List.mem_cons_self rfl (fun w hc => ld1 ag41 hc)) rfl rfl rfl ?_; clear S a; intro a S
            refine l_pure S (p_builtin (xs := [_]) rfl (fun _ _ _ => rfl)) rfl rfl rfl ?_; clear S a; intro a S
            refine l_pure S (p_move rfl) rfl rfl rfl ?_; clear S a; intro a S
            have hmy : (manyOf v.f0).2 = true := by assumption
            have hpos : (manyOf v.f0).1 = 1 ∨ (manyOf v.f0).1 = 2 := many_pos hmy
            have hquo : IntKind.i64.wrap ((v.f3.length : Int).tdiv (manyOf v.f0).1) = ((v.f3.length / (manyOf v.f0).1.toNat : Nat) : Int) := by
              rw [Int.tdiv_eq_ediv_of_nonneg (by omega)]
              rcases hpos with e | e <;> rw [e] <;> exact (IntWalk.i64_in _ (by omega)).trans (by simp)
            refine l_pure S (p_quo (r := ((v.f3.length / (manyOf v.f0).1.toNat : Nat) : Int)) rfl rfl (by omega) hquo) rfl rfl rfl ?_; clear S a; intro a S
            have hdle := Nat.div_le_self v.f3.length (manyOf v.f0).1.toNat
            refine l_pure S (p_conv rfl (fun w => cv_int (r := ((v.f3.length / (manyOf v.f0).1.toNat : Nat) : Int)) Try.underlying3 Try.underlying22 (u64n _ (Nat.le_trans hdle (by omega))))) rfl rfl rfl ?_; clear S a; intro a S
            have hcon := wire42 (v.f3.length / (manyOf v.f0).1.toNat) w (Nat.le_trans (Nat.div_le_self _ _) (Nat.le_trans hz3 (by decide)))
            refine l_call S rfl rfl Try.func42 rfl rfl (hcon) rfl rfl rfl ?_
            rintro e w ⟨rfl, hb⟩
            refine ⟨_, rfl, ?_⟩; clear S a; intro a S
            replace H := H.later hb; clear hb hcon
            refine l_pure S (p_sadd rfl rfl (by simp only [ByteArray.size_append, strOfNums_size, List.length_singleton]; have e1_ : (⟨#[45, 49]⟩ : ByteArray).size = 2 := rfl; have e2_ : (⟨#[13, 10]⟩ : ByteArray).size = 2 := rfl; have e3_ : (⟨#[58]⟩ : ByteArray).size = 1 := rfl; have hds_ := digs_size (v.f3.length / (manyOf v.f0).1.toNat); have hdle_ := Nat.div_le_self v.f3.length (manyOf v.f0).1.toNat; omega)) rfl rfl rfl ?_; clear S a; intro a S
            refine l_pure S (p_sadd rfl rfl (by simp only [ByteArray.size_append, strOfNums_size, List.length_singleton]; have e1_ : (⟨#[45, 49]⟩ : ByteArray).size = 2 := rfl; have e2_ : (⟨#[13, 10]⟩ : ByteArray).size = 2 := rfl; have e3_ : (⟨#[58]⟩ : ByteArray).size = 1 := rfl; have hds_ := digs_size (v.f3.length / (manyOf v.f0).1.toNat); have hdle_ := Nat.div_le_self v.f3.length (manyOf v.f0).1.toNat; omega)) rfl rfl rfl ?_; clear S a; intro a S
            refine l_pure S (p_assign rfl) rfl rfl rfl ?_; clear S a; intro a S
            refine l_nil ?_
            refine e_then ?_
            refine wp_seq ?_
            refine wp_seq ?_
            refine c_region ?_
            refine l_pure S (p_fieldAddr rfl (fun w => fa43_5 w _ _)) rfl rfl rfl ?_; clear S a; intro a S
            refine l_read S H (r_load rfl List.mem_cons_self rfl (fun w hc => ld1 ag4 hc)) rfl rfl rfl ?_; clear S a; intro a S
            refine l_nil ?_
            refine e_then ?_
            refine c_cond (b := false) S rfl (fun h => by cases h) (fun _ => ?_)
            refine wp_skip ?_
            refine e_then ?_
            refine wp_seq ?_
            refine wp_seq ?_
            refine c_region ?_
            refine l_pure S (p_fieldAddr rfl (fun w => fa43_3 w _ _)) rfl rfl rfl ?_; clear S a; intro a S
            refine l_read S H (r_load rfl List.mem_cons_self rfl (fun w hc => ld1 ag41 hc)) rfl rfl rfl ?_; clear S a; intro a S
            refine l_pure S (p_builtin (xs := [_]) rfl (fun _ _ _ => rfl)) rfl rfl rfl ?_; clear S a; intro a S
            refine l_pure S (p_move rfl) rfl rfl rfl ?_; clear S a; intro a S
            refine l_nil ?_
            refine e_then ?_
            refine wp_block ?_
            obtain ⟨W0, hW0⟩ : ∃ W0, W0 = strOfNums [v.f0] ++ digs (v.f3.length / (manyOf v.f0).1.toNat) ++ CRLF := ⟨_, rfl⟩
            have e9 : strOfNums [v.f0] ++ digs (v.f3.length / (manyOf v.f0).1.toNat) ++ ⟨#[13, 10]⟩ = kidsW (wireF n) (v.f3.take 0) W0 := by rw [hW0]; rfl
            rw [e9] at S
            have hwe : wireF (n + 1) v = kidsW (wireF n) v.f3 W0 := by rw [hW0]; exact wire_many (by assumption) (by assumption) (by assumption) (by assumption)
            have HWS := Aside0.mk (show (kidsW (wireF n) v.f3 W0).size ≤ 1000000000 by rw [← hwe]; exact HZ4.out)
            refine c_loop (σ := Nat) (fun s_ a w => match s_ with | j => SL a 117 [] [(1, .pointer (some ⟨g1, 0, none⟩)), (9, .string (kidsW (wireF n) (v.f3.take j) W0)), (101, .slice A3 v.f3.length cap3), (102, .int .i64 (v.f3.length : Int)), (103, .int .i64 (j : Int))] ∧ HH (w0.heap.size) w0 w [(g1, .cells #[.int .u8 v.f0, .string v.f1, .string v.f2, .slice A3 v.f3.length cap3, .bool v.f4, .bool false, .slice A6 v.f6.length cap6] 43 (0, 0))] ∧ (j ≤ v.f3.length)) (fun s_ => match s_ with | j => v.f3.length - j) 0 ⟨S.only ⟨rfl, rfl, rfl, rfl, rfl, trivial⟩, H, Nat.zero_le _⟩ ?_
            clear S a H; rintro j a w ⟨S, H, hinv⟩
            refine wp_seq ?_
            refine c_region ?_
            refine l_pure S (p_lss rfl rfl) rfl rfl rfl ?_; clear S a; intro a S
            refine l_nil ?_
            refine e_then ?_
            refine wp_seq ?_
            refine c_cond S rfl (fun c34 => ?_) (fun c34 => ?_)
            · skip
              have c34 := of_decide_eq_true c34
              refine wp_skip ?_
              refine e_then ?_
              refine wp_seq ?_
              refine wp_block ?_
              refine wp_seq ?_
              refine c_region ?_
              obtain ⟨ad, hA3⟩ := C_some h3.out (by omega : j < v.f3.length)
              subst hA3
              obtain ⟨cs, hK, hrd⟩ := row_agg (P := Try.prog) (t := 43) h3.out (get_some z43 (by omega : j < v.f3.length)) sz43 ag43
              obtain ⟨B3, d3, B6, d6, rfl, hl3, hc3, hl6, hc6⟩ := k43_open hK
              clear hK
              refine l_pure S (p_indexAddr rfl rfl (fun w => ia_any Try.underlying41 sz43 (by omega) (by omega))) rfl rfl rfl ?_; clear S a; intro a S
              refine l_read S H (hrd _ _ _ _ rfl (by show (j : Int).toNat * 7 = j * 7; omega)) rfl rfl rfl ?_; clear S a; intro a S
              refine l_alloc (cs := _) S H rfl (fun w => al zv43) rfl rfl rfl ?_; clear S a H; intro g35 w a H S
              refine l_storeAll S H rfl rfl rfl sz43 .here rfl (by simp [Value.oneCell']) rfl rfl ?_; clear S a H; intro w a H S
              refine l_nil ?_
              refine e_then ?_
              refine c_region ?_
              refine l_pure S (p_move rfl) rfl rfl rfl ?_; clear S a; intro a S
              refine l_read S H (r_loadn (m := 7) rfl List.mem_cons_self ag43 sz43 rfl rfl) rfl rfl rfl ?_; clear S a; intro a S
              refine l_call S rfl rfl Try.func22 rfl rfl (ih (v.f3.getD j z43) _ _ _ _ _ (good_kid hgood (by omega)) (C_old hc3 H) (C_old hc6 H)) rfl rfl rfl ?_
              rintro e w ⟨rfl, hb⟩
              refine ⟨_, rfl, ?_⟩; clear S a; intro a S
              replace H := (H.later hb).tail; clear hb
              refine l_pure S (p_sadd rfl rfl (kids_fit (by omega) HWS.out)) rfl rfl rfl ?_; clear S a; intro a S
              refine l_pure S (p_assign rfl) rfl rfl rfl ?_; clear S a; intro a S
              rw [← kidsW_succ _ (by omega : j < v.f3.length)] at S
              refine l_nil ?_
              refine e_in 4 ?_
              refine e_then ?_
              refine c_region ?_
              refine l_pure S (p_add (r := _) rfl rfl (IntWalk.i64_in _ (by omega))) rfl rfl rfl ?_; clear S a; intro a S
              refine l_pure S (p_move rfl) rfl rfl rfl ?_; clear S a; intro a S
              refine l_nil ?_
              refine e_then ?_
              exact ⟨(j + 1), ⟨S.only ⟨rfl, rfl, rfl, rfl, rfl, trivial⟩, H, by omega⟩, by show v.f3.length - (j + 1) < v.f3.length - j; omega⟩
            · skip
              have c34 := of_decide_eq_false c34
              refine wp_exit ?_
              refine e_then_exit ?_
              refine e_then_exit ?_
              refine e_in_exit ?_
              refine e_then ?_
              refine wp_seq ?_
              refine wp_seq ?_
              refine c_region ?_
              refine l_pure S (p_fieldAddr rfl (fun w => fa43_5 w _ _)) rfl rfl rfl ?_; clear S a; intro a S
              refine l_read S H (r_load rfl List.mem_cons_self rfl (fun w hc => ld1 ag4 hc)) rfl rfl rfl ?_; clear S a; intro a S
              refine l_nil ?_
              refine e_then ?_
              refine c_cond (b := false) S rfl (fun h => by cases h) (fun _ => ?_)
              refine wp_skip ?_
              refine e_then ?_
              refine wp_seq ?_
              refine c_region ?_
              refine l_pure S (p_move rfl) rfl rfl rfl ?_; clear S a; intro a S
              refine l_pure S (p_assign rfl) rfl rfl rfl ?_; clear S a; intro a S
              refine l_nil ?_
              refine e_then ?_
              refine wp_ret ?_
              exact r_ret1 S rfl rfl ⟨by rw [hwe, List.take_of_length_le (show v.f3.length ≤ j by omega)], H.below⟩
end Go.Proofs.Ytcjdadfiedoflaa.tells.wr
