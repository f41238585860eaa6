-- PRINTED BY print.sh 35421559b90ae4d0a3588c463048766b98c2df88dd9212a6774a882060cdf62d: not written by this session
import Derived.Test.YtcjdadfiedoflaaPFnClusterSlotx0
namespace Go.Proofs.Ytcjdadfiedoflaa.PFnClusterSlot
open Go.RowKit Go.Proofs.YtcjdadfiedoflaaW.PrintWords Go.Proofs.YtcjdadfiedoflaaW.PrintLast Go.Proofs.YtcjdadfiedoflaaW.PrintMore
attribute [local go_sem] max2_int min2_int max_two min_two max_three min_three max_four min_four   -- for this text's walks alone
set_option linter.unusedVariables false
set_option linter.unusedSimpArgs false

-- NOT PRINTED: function 55 (bytealg_IndexByte)

-- NOT PRINTED: function 53 (bytes_IndexByte)

-- NOT PRINTED: function 54 (radix_CRC16)

-- NOT PRINTED: function 43 (radix_ClusterSlot)

-- NOT PRINTED: function 24 (impl_ClusterSlot)

/-! ### spec_CRC16: function 44 -/
mutual
def spec_CRC16.l0 : Nat → Int → List Int → Int → Int → Option (Int)
  | 0, _, _, _, _ => none
  | k + 1, x3, x8, x9, x10 => if x10 < x9 then (if 0 ≤ x10 then (if x10 < (x8.length : Int) then (spec_CRC16.l1 k x3 (rd x8 x10) 7 x8 x9 x10) else (none)) else (none)) else (some x3)
def spec_CRC16.l1 : Nat → Int → Int → Int → List Int → Int → Int → Option (Int)
  | 0, _, _, _, _, _, _ => none
  | k + 1, x3, x5, x6, x8, x9, x10 => if x6 ≥ 0 then (if 0 ≤ x6 then (if (Go.bits .and .u16 (x3 / 32768) 1) = (IntKind.u16.wrap (Go.bits .and .u8 (shr .u8 x5 x6) 1)) then (spec_CRC16.l1 k (IntKind.u16.wrap (x3 * 2)) x5 (wrap64 (x6 - 1)) x8 x9 x10) else (spec_CRC16.l1 k (Go.bits .xor .u16 (IntKind.u16.wrap (x3 * 2)) 4129) x5 (wrap64 (x6 - 1)) x8 x9 x10)) else (none)) else (spec_CRC16.l0 k x3 x8 x9 (wrap64 (x10 + 1)))
end
def spec_CRC16.f (k : Nat) (l0 : List Int) : Option (Int) := spec_CRC16.l0 k 0 l0 (l0.length : Int) 0
theorem spec_CRC16.mono_l : ∀ k, (∀ y0 y1 y2 y3, LeO (spec_CRC16.l0 k y0 y1 y2 y3) (spec_CRC16.l0 (k + 1) y0 y1 y2 y3)) ∧ (∀ y0 y1 y2 y3 y4 y5, LeO (spec_CRC16.l1 k y0 y1 y2 y3 y4 y5) (spec_CRC16.l1 (k + 1) y0 y1 y2 y3 y4 y5))
  | 0 => ⟨fun _ _ _ _ r h => by simp [spec_CRC16.l0] at h, fun _ _ _ _ _ _ r h => by simp [spec_CRC16.l1] at h⟩
  | k + 1 => by
    obtain ⟨ih0, ih1⟩ := spec_CRC16.mono_l k
    refine ⟨?_, ?_⟩
    · intro y0 y1 y2 y3
      unfold spec_CRC16.l0
      repeat' first
      | (with_reducible exact ih0 _ _ _ _)
      | (with_reducible exact ih1 _ _ _ _ _ _)
      | (with_reducible exact LeO.refl _)
      | (with_reducible exact LeO.none _)
      | (with_reducible refine LeO.ite ?_ ?_)
      | (with_reducible refine LeO.bind ?_ (fun _ => ?_))
      | exact ih0 _ _ _ _
      | exact ih1 _ _ _ _ _ _
      | exact LeO.none _
      | refine LeO.ite ?_ ?_
      | refine LeO.bind ?_ (fun _ => ?_)
    · intro y0 y1 y2 y3 y4 y5
      unfold spec_CRC16.l1
      repeat' first
      | (with_reducible exact ih0 _ _ _ _)
      | (with_reducible exact ih1 _ _ _ _ _ _)
      | (with_reducible exact LeO.refl _)
      | (with_reducible exact LeO.none _)
      | (with_reducible refine LeO.ite ?_ ?_)
      | (with_reducible refine LeO.bind ?_ (fun _ => ?_))
      | exact ih0 _ _ _ _
      | exact ih1 _ _ _ _ _ _
      | exact LeO.none _
      | refine LeO.ite ?_ ?_
      | refine LeO.bind ?_ (fun _ => ?_)
theorem spec_CRC16.mono : ∀ a0 k, LeO (spec_CRC16.f k a0) (spec_CRC16.f (k + 1) a0) := by
  intro a0 k
  obtain ⟨ih0, ih1⟩ := spec_CRC16.mono_l k
  unfold spec_CRC16.f
  repeat' first
      | (with_reducible exact ih0 _ _ _ _)
      | (with_reducible exact ih1 _ _ _ _ _ _)
      | (with_reducible exact LeO.refl _)
      | (with_reducible exact LeO.none _)
      | (with_reducible refine LeO.ite ?_ ?_)
      | (with_reducible refine LeO.bind ?_ (fun _ => ?_))
      | exact ih0 _ _ _ _
      | exact ih1 _ _ _ _ _ _
      | exact LeO.none _
      | refine LeO.ite ?_ ?_
      | refine LeO.bind ?_ (fun _ => ?_)
set_option maxHeartbeats 8000000 in
set_option maxRecDepth 100000 in
theorem spec_CRC16.calls (k : Nat) (A0 : Option Addr) (c0 : Nat) (l0 : List Int) (r : Int) (w : World) (hr0 : Kd.C (Kd.int .u8) w A0 l0.length l0) (hc0 : l0.length ≤ c0) (h : spec_CRC16.f k l0 = some r) :
    Calls Try.prog 44 #[.slice A0 l0.length c0] w fun e w' => e = .returned (.int .u16 r) ∧ Drawn0 w w' := by
  have HR0 := Aside0.mk hr0
  have HC0 := Aside0.mk hc0
  clear hr0 hc0
  have H : (spec_CRC16.l0 k 0 l0 (l0.length : Int) 0) = some r := h
  clear h
  have H' := Aside0.mk H
  clear H
  go_enter Try.func44, Try.ntmps44
  go_wp2
  go_loopg [3, 10] k (fun kq v3 v10 w' => ∃ (x3_1 : Int) (x10_1 : Int), v3 = .int .u16 x3_1 ∧ v10 = .int .i64 x10_1 ∧ Aside0 (spec_CRC16.l0 kq x3_1 l0 (l0.length : Int) x10_1 = some r) ∧ Aside0 (kq ≤ k) ∧ Drawn0 w w')
  case atStart => exact ⟨(0), (0), (by first | rfl | (simp; done) | (simp [*]; done)), (by first | rfl | (simp; done) | (simp [*]; done)), H', ⟨Nat.le_refl _⟩, by repeat (first | exact Drawn0.refl _ | apply Drawn0.step)⟩
  case round =>
    clear H'
    obtain ⟨x3_1, x10_1, rfl, rfl, HA, HK1, ⟨m1, rfl⟩⟩ := hrel
    cases gk with
    | zero => exact absurd HA.out (by simp [spec_CRC16.l0])
    | succ k1 =>
      have H := HA.out
      clear HA
      simp only [spec_CRC16.l0] at H
      by_cases c2 : x10_1 < (l0.length : Int)
      · rw [if_pos c2] at H
        have c2b0 : decide (x10_1 < (l0.length : Int)) = true := decide_eq_true c2
        clear c2
        by_cases c3 : 0 ≤ x10_1
        · rw [if_pos c3] at H
          have c3b0 : decide (0 ≤ x10_1) = true := decide_eq_true c3
          clear c3
          by_cases c4 : x10_1 < (l0.length : Int)
          · rw [if_pos c4] at H
            have c4b0 : decide (x10_1 < (l0.length : Int)) = true := decide_eq_true c4
            clear c4
            have H' := Aside0.mk H
            clear H
            have p101 : 0 ≤ (x10_1 : Int) := of_decide_eq_true (by first | (with_reducible assumption) | assumption)
            have q101 : x10_1 < (l0.length : Int) := of_decide_eq_true (by first | (with_reducible assumption) | assumption)
            obtain ⟨ad101, e101, hx101_0⟩ := Kd.at_int HR0.out x10_1 p101 q101
            cases e101
            replace p101 := eq_true p101
            replace q101 := eq_true q101
            go_wp2
            go_loopg [3, 6] k1 (fun kq v3 v6 w' => ∃ (x3_2 : Int) (x6_2 : Int), v3 = .int .u16 x3_2 ∧ v6 = .int .i64 x6_2 ∧ Aside0 (spec_CRC16.l1 kq x3_2 (rd l0 x10_1) x6_2 l0 (l0.length : Int) x10_1 = some r) ∧ Aside0 (kq ≤ k1) ∧ Drawn0 w w')
            case atStart => exact ⟨(x3_1), (7), (by first | rfl | (simp; done) | (simp [*]; done)), (by first | rfl | (simp; done) | (simp [*]; done)), H', ⟨Nat.le_refl _⟩, by repeat (first | exact Drawn0.refl _ | apply Drawn0.step)⟩
            case round =>
              clear H'
              try clear p1
              try clear q1
              try clear hx1
              try clear c2
              try clear c2b0
              try clear p2
              try clear c3
              try clear c3b0
              try clear c4
              try clear c4b0
              try clear hx101_0
              try clear p101
              try clear q101
              obtain ⟨x3_2, x6_2, rfl, rfl, HA, HK2, ⟨m2, rfl⟩⟩ := hrel
              cases gk with
              | zero => exact absurd HA.out (by simp [spec_CRC16.l1])
              | succ k2 =>
                have H := HA.out
                clear HA
                simp only [spec_CRC16.l1] at H
                by_cases c5 : x6_2 ≥ 0
                · rw [if_pos c5] at H
                  have c5b0 : decide (0 ≤ x6_2) = true := decide_eq_true c5
                  clear c5
                  by_cases c6 : 0 ≤ x6_2
                  · rw [if_pos c6] at H
                    have c6b0 := eq_true c6
                    have c6b1 : decide (0 ≤ x6_2) = true := decide_eq_true c6
                    clear c6
                    obtain ⟨ji7, hji7⟩ : ∃ j_ : Int, (shr .u8 (rd l0 x10_1) x6_2) = j_ := ⟨_, rfl⟩
                    replace H : (if (Go.bits .and .u16 (x3_2 / 32768) 1) = (IntKind.u16.wrap (Go.bits .and .u8 (ji7) 1)) then (spec_CRC16.l1 k2 (IntKind.u16.wrap (x3_2 * 2)) (rd l0 x10_1) (wrap64 (x6_2 - 1)) l0 (l0.length : Int) x10_1) else (spec_CRC16.l1 k2 (Go.bits .xor .u16 (IntKind.u16.wrap (x3_2 * 2)) 4129) (rd l0 x10_1) (wrap64 (x6_2 - 1)) l0 (l0.length : Int) x10_1)) = some r := by first | (rw [hji7] at H; exact H) | (simp only [hji7] at H ⊢; exact H)
                    have hji7_ : ((rd l0 x10_1) / 2 ^ min x6_2.toNat 8) = ji7 := hji7
                    have hji7z : x6_2 ≤ 8 → ((rd l0 x10_1) / 2 ^ x6_2.toNat) = ji7 := shr_small hji7
                    by_cases c8 : (Go.bits .and .u16 (x3_2 / 32768) 1) = (IntKind.u16.wrap (Go.bits .and .u8 (ji7) 1))
                    · rw [if_pos c8] at H
                      have c8b0 : ((Go.bits .and .u16 (x3_2 / 32768) 1) == (IntKind.u16.wrap (Go.bits .and .u8 (ji7) 1))) = true := beq_iff_eq.mpr c8
                      have c8b1 : ((Go.bits .and .u16 (x3_2 / 32768) 1) != (IntKind.u16.wrap (Go.bits .and .u8 (ji7) 1))) = false := bne_eq_false_iff_eq.mpr c8
                      clear c8
                      have H' := Aside0.mk H
                      clear H
                      go_wp2
                      go_roundg k2
                      case measure => have := HK1.out; have := HK2.out; omega
                      case rel => exact ⟨(IntKind.u16.wrap (x3_2 * 2)), (wrap64 (x6_2 - 1)), (by first | rfl | (simp; done) | (simp [*]; done)), (by first | rfl | (simp; done) | (simp [*]; done)), H', ⟨by have := HK1.out; have := HK2.out; omega⟩, by repeat (first | exact Drawn0.refl _ | apply Drawn0.step)⟩
                    · rw [if_neg c8] at H
                      have c8b0 : ((Go.bits .and .u16 (x3_2 / 32768) 1) == (IntKind.u16.wrap (Go.bits .and .u8 (ji7) 1))) = false := beq_eq_false_iff_ne.mpr c8
                      have c8b1 : ((Go.bits .and .u16 (x3_2 / 32768) 1) != (IntKind.u16.wrap (Go.bits .and .u8 (ji7) 1))) = true := bne_iff_ne.mpr c8
                      have H' := Aside0.mk H
                      clear H
                      go_wp2
                      go_roundg k2
                      case measure => have := HK1.out; have := HK2.out; omega
                      case rel => exact ⟨(Go.bits .xor .u16 (IntKind.u16.wrap (x3_2 * 2)) 4129), (wrap64 (x6_2 - 1)), (by first | rfl | (simp; done) | (simp [*]; done)), (by first | rfl | (simp; done) | (simp [*]; done)), H', ⟨by have := HK1.out; have := HK2.out; omega⟩, by repeat (first | exact Drawn0.refl _ | apply Drawn0.step)⟩
                  · rw [if_neg c6] at H
                    exact absurd H (by simp)
                · rw [if_neg c5] at H
                  have c5b0 : decide (0 ≤ x6_2) = false := decide_eq_false c5
                  clear c5
                  have H' := Aside0.mk H
                  clear H
                  go_wp2
                  go_roundg k2
                  case measure => have := HK1.out; have := HK2.out; omega
                  case rel => exact ⟨(x3_2), (wrap64 (x10_1 + 1)), (by first | rfl | (simp; done) | (simp [*]; done)), (by first | rfl | (simp; done) | (simp [*]; done)), H', ⟨by have := HK1.out; have := HK2.out; omega⟩, by repeat (first | exact Drawn0.refl _ | apply Drawn0.step)⟩
          · rw [if_neg c4] at H
            exact absurd H (by simp)
        · rw [if_neg c3] at H
          exact absurd H (by simp)
      · rw [if_neg c2] at H
        have c2b0 : decide (x10_1 < (l0.length : Int)) = false := decide_eq_false c2
        clear c2
        obtain rfl := Option.some.inj H
        go_wp2
        go_ret
        exact ⟨by first | rfl | (simp; done) | (simp [*]; done), by repeat (first | exact Drawn0.refl _ | apply Drawn0.step)⟩

-- NOT PRINTED: function 45 (spec_Tag)

-- NOT PRINTED: function 25 (spec_Slot)

-- NOT PRINTED: function 7 (laws_FnClusterSlot)

end Go.Proofs.Ytcjdadfiedoflaa.PFnClusterSlot
