/- The reference's end of a line: began as a printed text (PFnEndOfLinex1), the part that stands. -/
import Derived.Test.YtbahngfpadjbhaaDoorPFnEndOfLinex0
namespace Go.Proofs.YtbahngfpadjbhaaDoor.PFnEndOfLine
open Go.RowKit Go.Proofs.YtbahngfpadjbhaaDoorW.PrintWords Go.Proofs.YtbahngfpadjbhaaDoorW.PrintLast Go.Proofs.YtbahngfpadjbhaaDoorW.PrintMore
attribute [local go_sem] max2_int min2_int max_two min_two max_three min_three max_four min_four   -- for this text's walks alone
set_option linter.unusedVariables false
set_option linter.unusedSimpArgs false

/-! ### spec_LineEnd: function 5 -/
def spec_LineEnd.f (a0 : ByteArray) : Option (Int × Bool) := if a0.toList = ([] : List UInt8) then (some (0, true)) else (if 0 < (a0.size : Int) then (if (bt a0 0) = 10 then (some (1, true)) else (if (bt a0 0) = 13 then (if (a0.size : Int) = 1 then (some (1, true)) else (if 1 < (a0.size : Int) then (if (bt a0 1) = 10 then (some (2, true)) else (some (0, false))) else (none))) else (some (0, false)))) else (none))
set_option maxHeartbeats 8000000 in
set_option maxRecDepth 100000 in
theorem spec_LineEnd.calls (a0 : ByteArray) (r1 : Int) (r2 : Bool) (w : World) (h : spec_LineEnd.f a0 = some (r1, r2)) :
    Calls Tryd.prog 5 #[.string a0] w fun e w' => e = .returned (.tuple #[.int .i64 r1, .bool r2]) ∧ Drawn0 w w' := by
  have H : (if a0.toList = ([] : List UInt8) then (some (0, true)) else (if 0 < (a0.size : Int) then (if (bt a0 0) = 10 then (some (1, true)) else (if (bt a0 0) = 13 then (if (a0.size : Int) = 1 then (some (1, true)) else (if 1 < (a0.size : Int) then (if (bt a0 1) = 10 then (some (2, true)) else (some (0, false))) else (none))) else (some (0, false)))) else (none))) = some (r1, r2) := h
  clear h
  by_cases c2 : a0.toList = ([] : List UInt8)
  · rw [if_pos c2] at H
    have c2b0 : (a0.toList == ([] : List UInt8)) = true := beq_iff_eq.mpr c2
    have c2b1 : (a0.toList != ([] : List UInt8)) = false := bne_eq_false_iff_eq.mpr c2
    clear c2
    simp only [Option.some.injEq, Prod.mk.injEq] at H
    obtain ⟨rfl, rfl⟩ := H
    go_enter Tryd.func5, Tryd.ntmps5
    go_wp2
    go_ret2
    exact ⟨by first | rfl | (simp; done) | (simp [*]; done), by repeat (first | exact Drawn0.refl _ | apply Drawn0.step)⟩
  · rw [if_neg c2] at H
    have c2b0 : (a0.toList == ([] : List UInt8)) = false := beq_eq_false_iff_ne.mpr c2
    have c2b1 : (a0.toList != ([] : List UInt8)) = true := bne_iff_ne.mpr c2
    by_cases c3 : 0 < (a0.size : Int)
    · rw [if_pos c3] at H
      have c3b0 : decide (0 < (a0.size : Int)) = true := decide_eq_true c3
      have c3b1 : decide (0 < a0.size) = true := decide_eq_true (by omega)
      clear c3
      by_cases c5 : (bt a0 0) = 10
      · rw [if_pos c5] at H
        have c5b0 : ((bt a0 0) == 10) = true := beq_iff_eq.mpr c5
        have c5b1 : ((bt a0 0) != 10) = false := bne_eq_false_iff_eq.mpr c5
        clear c5
        simp only [Option.some.injEq, Prod.mk.injEq] at H
        obtain ⟨rfl, rfl⟩ := H
        have p4 : 0 ≤ (0 : Int) := (by omega)
        have q4 : 0 < a0.size := (by have : (0 : Int) < (a0.size : Int) := of_decide_eq_true (by first | (with_reducible assumption) | assumption); omega)
        have hx4 : ∀ h : 0 < a0.size, ((a0[0]'h).toNat : Int) = bt a0 0 := bt_at a0 0
        clear p4
        have qi4 : (0 < (a0.size : Int)) = True := eq_true (of_decide_eq_true (by first | (with_reducible assumption) | assumption))
        replace q4 := eq_true q4
        go_enter Tryd.func5, Tryd.ntmps5
        go_wp2
        go_ret2
        exact ⟨by first | rfl | (simp; done) | (simp [*]; done), by repeat (first | exact Drawn0.refl _ | apply Drawn0.step)⟩
      · rw [if_neg c5] at H
        have c5b0 : ((bt a0 0) == 10) = false := beq_eq_false_iff_ne.mpr c5
        have c5b1 : ((bt a0 0) != 10) = true := bne_iff_ne.mpr c5
        by_cases c7 : (bt a0 0) = 13
        · rw [if_pos c7] at H
          have c7b0 : ((bt a0 0) == 13) = true := beq_iff_eq.mpr c7
          have c7b1 : ((bt a0 0) != 13) = false := bne_eq_false_iff_eq.mpr c7
          clear c7
          by_cases c8 : (a0.size : Int) = 1
          · rw [if_pos c8] at H
            have c8b0 : ((a0.size : Int) == 1) = true := beq_iff_eq.mpr c8
            have c8b1 : ((a0.size : Int) != 1) = false := bne_eq_false_iff_eq.mpr c8
            clear c8
            simp only [Option.some.injEq, Prod.mk.injEq] at H
            obtain ⟨rfl, rfl⟩ := H
            have p4 : 0 ≤ (0 : Int) := (by omega)
            have q4 : 0 < a0.size := (by have : (0 : Int) < (a0.size : Int) := of_decide_eq_true (by first | (with_reducible assumption) | assumption); omega)
            have hx4 : ∀ h : 0 < a0.size, ((a0[0]'h).toNat : Int) = bt a0 0 := bt_at a0 0
            clear p4
            have qi4 : (0 < (a0.size : Int)) = True := eq_true (of_decide_eq_true (by first | (with_reducible assumption) | assumption))
            replace q4 := eq_true q4
            have p6 : 0 ≤ (0 : Int) := (by omega)
            have q6 : 0 < a0.size := (by have : (0 : Int) < (a0.size : Int) := of_decide_eq_true (by first | (with_reducible assumption) | assumption); omega)
            have hx6 : ∀ h : 0 < a0.size, ((a0[0]'h).toNat : Int) = bt a0 0 := bt_at a0 0
            clear p6
            have qi6 : (0 < (a0.size : Int)) = True := eq_true (of_decide_eq_true (by first | (with_reducible assumption) | assumption))
            replace q6 := eq_true q6
            go_enter Tryd.func5, Tryd.ntmps5
            go_wp2
            go_ret2
            exact ⟨by first | rfl | (simp; done) | (simp [*]; done), by repeat (first | exact Drawn0.refl _ | apply Drawn0.step)⟩
          · rw [if_neg c8] at H
            have c8b0 : ((a0.size : Int) == 1) = false := beq_eq_false_iff_ne.mpr c8
            have c8b1 : ((a0.size : Int) != 1) = true := bne_iff_ne.mpr c8
            by_cases c9 : 1 < (a0.size : Int)
            · rw [if_pos c9] at H
              have c9b0 : decide (1 < (a0.size : Int)) = true := decide_eq_true c9
              have c9b1 : decide (1 < a0.size) = true := decide_eq_true (by omega)
              clear c9
              by_cases c11 : (bt a0 1) = 10
              · rw [if_pos c11] at H
                have c11b0 : ((bt a0 1) == 10) = true := beq_iff_eq.mpr c11
                have c11b1 : ((bt a0 1) != 10) = false := bne_eq_false_iff_eq.mpr c11
                clear c11
                simp only [Option.some.injEq, Prod.mk.injEq] at H
                obtain ⟨rfl, rfl⟩ := H
                have p4 : 0 ≤ (0 : Int) := (by omega)
                have q4 : 0 < a0.size := (by have : (0 : Int) < (a0.size : Int) := of_decide_eq_true (by first | (with_reducible assumption) | assumption); omega)
                have hx4 : ∀ h : 0 < a0.size, ((a0[0]'h).toNat : Int) = bt a0 0 := bt_at a0 0
                clear p4
                have qi4 : (0 < (a0.size : Int)) = True := eq_true (of_decide_eq_true (by first | (with_reducible assumption) | assumption))
                replace q4 := eq_true q4
                have p6 : 0 ≤ (0 : Int) := (by omega)
                have q6 : 0 < a0.size := (by have : (0 : Int) < (a0.size : Int) := of_decide_eq_true (by first | (with_reducible assumption) | assumption); omega)
                have hx6 : ∀ h : 0 < a0.size, ((a0[0]'h).toNat : Int) = bt a0 0 := bt_at a0 0
                clear p6
                have qi6 : (0 < (a0.size : Int)) = True := eq_true (of_decide_eq_true (by first | (with_reducible assumption) | assumption))
                replace q6 := eq_true q6
                have p10 : 0 ≤ (1 : Int) := (by omega)
                have q10 : 1 < a0.size := (by have : (1 : Int) < (a0.size : Int) := of_decide_eq_true (by first | (with_reducible assumption) | assumption); omega)
                have hx10 : ∀ h : 1 < a0.size, ((a0[1]'h).toNat : Int) = bt a0 1 := bt_at a0 1
                clear p10
                have qi10 : (1 < (a0.size : Int)) = True := eq_true (of_decide_eq_true (by first | (with_reducible assumption) | assumption))
                replace q10 := eq_true q10
                go_enter Tryd.func5, Tryd.ntmps5
                go_wp2
                go_ret2
                exact ⟨by first | rfl | (simp; done) | (simp [*]; done), by repeat (first | exact Drawn0.refl _ | apply Drawn0.step)⟩
              · rw [if_neg c11] at H
                have c11b0 : ((bt a0 1) == 10) = false := beq_eq_false_iff_ne.mpr c11
                have c11b1 : ((bt a0 1) != 10) = true := bne_iff_ne.mpr c11
                simp only [Option.some.injEq, Prod.mk.injEq] at H
                obtain ⟨rfl, rfl⟩ := H
                have p4 : 0 ≤ (0 : Int) := (by omega)
                have q4 : 0 < a0.size := (by have : (0 : Int) < (a0.size : Int) := of_decide_eq_true (by first | (with_reducible assumption) | assumption); omega)
                have hx4 : ∀ h : 0 < a0.size, ((a0[0]'h).toNat : Int) = bt a0 0 := bt_at a0 0
                clear p4
                have qi4 : (0 < (a0.size : Int)) = True := eq_true (of_decide_eq_true (by first | (with_reducible assumption) | assumption))
                replace q4 := eq_true q4
                have p6 : 0 ≤ (0 : Int) := (by omega)
                have q6 : 0 < a0.size := (by have : (0 : Int) < (a0.size : Int) := of_decide_eq_true (by first | (with_reducible assumption) | assumption); omega)
                have hx6 : ∀ h : 0 < a0.size, ((a0[0]'h).toNat : Int) = bt a0 0 := bt_at a0 0
                clear p6
                have qi6 : (0 < (a0.size : Int)) = True := eq_true (of_decide_eq_true (by first | (with_reducible assumption) | assumption))
                replace q6 := eq_true q6
                have p10 : 0 ≤ (1 : Int) := (by omega)
                have q10 : 1 < a0.size := (by have : (1 : Int) < (a0.size : Int) := of_decide_eq_true (by first | (with_reducible assumption) | assumption); omega)
                have hx10 : ∀ h : 1 < a0.size, ((a0[1]'h).toNat : Int) = bt a0 1 := bt_at a0 1
                clear p10
                have qi10 : (1 < (a0.size : Int)) = True := eq_true (of_decide_eq_true (by first | (with_reducible assumption) | assumption))
                replace q10 := eq_true q10
                go_enter Tryd.func5, Tryd.ntmps5
                go_wp2
                go_ret2
                exact ⟨by first | rfl | (simp; done) | (simp [*]; done), by repeat (first | exact Drawn0.refl _ | apply Drawn0.step)⟩
            · rw [if_neg c9] at H
              exact absurd H (by simp)
        · rw [if_neg c7] at H
          have c7b0 : ((bt a0 0) == 13) = false := beq_eq_false_iff_ne.mpr c7
          have c7b1 : ((bt a0 0) != 13) = true := bne_iff_ne.mpr c7
          simp only [Option.some.injEq, Prod.mk.injEq] at H
          obtain ⟨rfl, rfl⟩ := H
          have p4 : 0 ≤ (0 : Int) := (by omega)
          have q4 : 0 < a0.size := (by have : (0 : Int) < (a0.size : Int) := of_decide_eq_true (by first | (with_reducible assumption) | assumption); omega)
          have hx4 : ∀ h : 0 < a0.size, ((a0[0]'h).toNat : Int) = bt a0 0 := bt_at a0 0
          clear p4
          have qi4 : (0 < (a0.size : Int)) = True := eq_true (of_decide_eq_true (by first | (with_reducible assumption) | assumption))
          replace q4 := eq_true q4
          have p6 : 0 ≤ (0 : Int) := (by omega)
          have q6 : 0 < a0.size := (by have : (0 : Int) < (a0.size : Int) := of_decide_eq_true (by first | (with_reducible assumption) | assumption); omega)
          have hx6 : ∀ h : 0 < a0.size, ((a0[0]'h).toNat : Int) = bt a0 0 := bt_at a0 0
          clear p6
          have qi6 : (0 < (a0.size : Int)) = True := eq_true (of_decide_eq_true (by first | (with_reducible assumption) | assumption))
          replace q6 := eq_true q6
          go_enter Tryd.func5, Tryd.ntmps5
          go_wp2
          go_ret2
          exact ⟨by first | rfl | (simp; done) | (simp [*]; done), by repeat (first | exact Drawn0.refl _ | apply Drawn0.step)⟩
    · rw [if_neg c3] at H
      exact absurd H (by simp)

end Go.Proofs.YtbahngfpadjbhaaDoor.PFnEndOfLine
