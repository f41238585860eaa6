-- PRINTED BY print.sh 35421559b90ae4d0a3588c463048766b98c2df88dd9212a6774a882060cdf62d: not written by this session
import Derived.Test.YtcjdadfiedoflaaPFnPrecisionx0
namespace Go.Proofs.Ytcjdadfiedoflaa.PFnPrecision
open Go.RowKit Go.Proofs.YtcjdadfiedoflaaW.PrintWords Go.Proofs.YtcjdadfiedoflaaW.PrintLast Go.Proofs.YtcjdadfiedoflaaW.PrintMore
attribute [local go_sem] max2_int min2_int max_two min_two max_three min_three max_four min_four   -- for this text's walks alone
set_option linter.unusedVariables false
set_option linter.unusedSimpArgs false

-- NOT PRINTED: function 31 (lineprotocol_Precision_String)

-- NOT PRINTED: function 15 (impl_PrecisionText)

-- NOT PRINTED: function 33 (lineprotocol_Precision_Duration)

-- NOT PRINTED: function 16 (impl_PrecisionNanos)

/-! ### spec_Ticks: function 17 -/
def spec_Ticks.f (a0 : Int) : Option (Int) := (some (([1, 1000, 1000000, 1000000000] : List Int) : List Int)).bind fun y101 => (if 0 ≤ a0 then (if a0 < (y101.length : Int) then (some (rd y101 a0)) else (none)) else (none))
set_option maxHeartbeats 8000000 in
set_option maxRecDepth 100000 in
theorem spec_Ticks.calls (a0 : Int) (r : Int) (w : World) (h : spec_Ticks.f a0 = some r) :
    Calls Try.prog 17 #[.int .i64 a0] w fun e w' => e = .returned (.int .i64 r) ∧ Below w.heap.size w w' := by
  have HB := Aside0.mk (Below.refl w.heap.size w)
  have H : ((some (([1, 1000, 1000000, 1000000000] : List Int) : List Int)).bind fun y101 => (if 0 ≤ a0 then (if a0 < (y101.length : Int) then (some (rd y101 a0)) else (none)) else (none))) = some r := h
  clear h
  obtain ⟨y101, hy101⟩ : ∃ y_ : List Int, y_ = (([1, 1000, 1000000, 1000000000] : List Int)) := ⟨_, rfl⟩
  replace H : (if 0 ≤ a0 then (if a0 < (y101.length : Int) then (some (rd y101 a0)) else (none)) else (none)) = some r := by first | (rw [hy101]; with_reducible exact H) | (have H2_ := (Option.bind_some _ _).symm.trans H; rw [hy101]; with_reducible exact H2_) | (have H2_ := (Option.bind_some _ _).symm.trans H; with_reducible exact H2_) | with_reducible exact H | (rw [hy101]; exact H) | exact H
  have Ny101 := Aside0.mk hy101
  clear hy101
  by_cases c2 : 0 ≤ a0
  · rw [if_pos c2] at H
    have c2b0 : decide (0 ≤ a0) = true := decide_eq_true c2
    clear c2
    by_cases c3 : a0 < (y101.length : Int)
    · rw [if_pos c3] at H
      have c3b0 : decide (a0 < (y101.length : Int)) = true := decide_eq_true c3
      clear c3
      obtain rfl := Option.some.inj H
      go_enter Try.func17, Try.ntmps17
      go_wp2_with (first | ((with_reducible refine gate_dst (N := 3) rfl ?_); refine Kd.R_lit (Kd.int .i64) _ 2 ?hg (N := 3) ?hd (xs := ([1, 1000, 1000000, 1000000000] : List Int)) (inner := [.int .i64 1, .int .i64 1000, .int .i64 1000000, .int .i64 1000000000]) (ok := fun _ => True) (okp := fun _ => True) ?hr ?hp (fun _ hk => hk) trivial (Below.refl _ _) (Nat.le_refl _) (by simp) ?_; (case hd => rfl); (case hg => rfl); (case hr => first | (go_simp; done) | (go_simp; rfl)); (case hp => exact (Reps.one (show Kd.M (Kd.int .i64) _ _ _ 1 [.int .i64 1] from rfl) (Reps.one (show Kd.M (Kd.int .i64) _ _ _ 1000 [.int .i64 1000] from rfl) (Reps.one (show Kd.M (Kd.int .i64) _ _ _ 1000000 [.int .i64 1000000] from rfl) (Reps.one (show Kd.M (Kd.int .i64) _ _ _ 1000000000 [.int .i64 1000000000] from rfl) (Reps.none _ _)))))); intro v102 w4 ho5 hb hg_ hnew_; clear hg_ hnew_; (first | rw [← Ny101.out] at ho5 | (simp only [Int.reduceToNat] at ho5; rw [← Ny101.out] at ho5)); have n0_ := Aside0.mk (Kd.R_lower ho5 (below_size (by repeat (first | (with_reducible first | exact HB.out | apply below_alloc | apply pw_below_drewN | apply below_drew1) | exact HB.out)))); have n1_ := Aside0.mk (below_step (by repeat (first | (with_reducible first | exact HB.out | apply below_alloc | apply pw_below_drewN | apply below_drew1) | exact HB.out)) hb); clear HB; have HO103 := n0_; have HB := n1_; clear n0_ n1_; clear hb ho5; obtain ⟨Ao6, co6, eo6⟩ := Kd.R_slice HO103.out; subst eo6; have p104 : 0 ≤ (a0 : Int) := of_decide_eq_true (by first | (with_reducible assumption) | assumption); have q104 : a0 < (y101.length : Int) := of_decide_eq_true (by first | (with_reducible assumption) | assumption); obtain ⟨ad104, e104, hx104_0⟩ := Kd.at_int (Kd.R_reads' HO103.out).2.2 a0 p104 q104; cases e104; replace p104 := eq_true p104; replace q104 := eq_true q104))
      go_ret
      exact ⟨by first | rfl | (simp [errW_none, errW_some] <;> rfl) | (simp [*, errW_none, errW_some] <;> rfl), by repeat (first | (with_reducible first | exact HB.out | apply below_alloc | apply pw_below_drewN | apply below_drew1) | exact HB.out)⟩
    · rw [if_neg c3] at H
      exact absurd H (by simp)
  · rw [if_neg c2] at H
    exact absurd H (by simp)

-- NOT PRINTED: function 5 (laws_FnPrecision)

end Go.Proofs.Ytcjdadfiedoflaa.PFnPrecision
