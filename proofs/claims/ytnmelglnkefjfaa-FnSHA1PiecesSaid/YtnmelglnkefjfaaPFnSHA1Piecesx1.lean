-- PRINTED BY print.sh 35421559b90ae4d0a3588c463048766b98c2df88dd9212a6774a882060cdf62d: not written by this session
import Derived.Test.YtnmelglnkefjfaaPFnSHA1Piecesx0
namespace Go.Proofs.Ytnmelglnkefjfaa.PFnSHA1Pieces
open Go.RowKit Go.Proofs.YtnmelglnkefjfaaW.PrintWords Go.Proofs.YtnmelglnkefjfaaW.PrintLast Go.Proofs.YtnmelglnkefjfaaW.PrintMore
attribute [local go_sem] max2_int min2_int max_two min_two max_three min_three max_four min_four   -- for this text's walks alone
set_option linter.unusedVariables false
set_option linter.unusedSimpArgs false

/-! ### laws_zzFits12: function 7 -/
def laws_zzFits12.l0 : Nat → List ByteArray → Int → Int → Option (Bool)
  | 0, _, _, _ => none
  | k + 1, x8, x9, x10 => if x10 < x9 then (if 0 ≤ x10 then (if x10 < (x8.length : Int) then (if ((rdOf ByteArray.empty x8 x10).size : Int) > 2147483647 then (some false) else (laws_zzFits12.l0 k x8 x9 (wrap64 (x10 + 1)))) else (none)) else (none)) else (some true)
def laws_zzFits12.f (k : Nat) (l0 : List ByteArray) : Option (Bool) := if (l0.length : Int) > 2147483647 then (some false) else (laws_zzFits12.l0 k l0 (l0.length : Int) 0)
theorem laws_zzFits12.mono_l : ∀ k, (∀ y0 y1 y2, LeO (laws_zzFits12.l0 k y0 y1 y2) (laws_zzFits12.l0 (k + 1) y0 y1 y2))
  | 0 => fun _ _ _ r h => by simp [laws_zzFits12.l0] at h
  | k + 1 => by
    have ih0 := laws_zzFits12.mono_l k
    · intro y0 y1 y2
      unfold laws_zzFits12.l0
      repeat' first
      | (with_reducible exact ih0 _ _ _)
      | (with_reducible exact LeO.refl _)
      | (with_reducible exact LeO.none _)
      | (with_reducible refine LeO.ite ?_ ?_)
      | (with_reducible refine LeO.bind ?_ (fun _ => ?_))
      | exact ih0 _ _ _
      | exact LeO.none _
      | refine LeO.ite ?_ ?_
      | refine LeO.bind ?_ (fun _ => ?_)
theorem laws_zzFits12.mono : ∀ a0 k, LeO (laws_zzFits12.f k a0) (laws_zzFits12.f (k + 1) a0) := by
  intro a0 k
  have ih0 := laws_zzFits12.mono_l k
  unfold laws_zzFits12.f
  repeat' first
      | (with_reducible exact ih0 _ _ _)
      | (with_reducible exact LeO.refl _)
      | (with_reducible exact LeO.none _)
      | (with_reducible refine LeO.ite ?_ ?_)
      | (with_reducible refine LeO.bind ?_ (fun _ => ?_))
      | exact ih0 _ _ _
      | exact LeO.none _
      | refine LeO.ite ?_ ?_
      | refine LeO.bind ?_ (fun _ => ?_)
set_option maxHeartbeats 8000000 in
set_option maxRecDepth 100000 in
theorem laws_zzFits12.calls (k : Nat) (A0 : Option Addr) (c0 : Nat) (l0 : List ByteArray) (r : Bool) (w : World) (hr0 : Kd.C Kd.string w A0 l0.length l0) (hc0 : l0.length ≤ c0) (h : laws_zzFits12.f k l0 = some r) :
    Calls Try.prog 7 #[.slice A0 l0.length c0] w fun e w' => e = .returned (.bool r) ∧ Drawn0 w w' := by
  have HR0 := Aside0.mk hr0
  have HC0 := Aside0.mk hc0
  clear hr0 hc0
  have H : (if (l0.length : Int) > 2147483647 then (some false) else (laws_zzFits12.l0 k l0 (l0.length : Int) 0)) = some r := h
  clear h
  by_cases c2 : (l0.length : Int) > 2147483647
  · rw [if_pos c2] at H
    have c2b0 : decide (2147483647 < (l0.length : Int)) = true := decide_eq_true c2
    have c2b1 : decide (2147483647 < l0.length) = true := decide_eq_true (by omega)
    clear c2
    obtain rfl := Option.some.inj H
    go_enter Try.func7, Try.ntmps7
    go_wp2
    go_ret
    exact ⟨by first | rfl | (simp; done) | (simp [*]; done), by repeat (first | exact Drawn0.refl _ | apply Drawn0.step)⟩
  · rw [if_neg c2] at H
    have c2b0 : decide (2147483647 < (l0.length : Int)) = false := decide_eq_false c2
    have c2b1 : decide (2147483647 < l0.length) = false := decide_eq_false (by omega)
    clear c2
    have H' := Aside0.mk H
    clear H
    go_enter Try.func7, Try.ntmps7
    go_wp2
    go_loopg [10] k (fun kq v10 w' => ∃ (x10_1 : Int), v10 = .int .i64 x10_1 ∧ Aside0 (laws_zzFits12.l0 kq l0 (l0.length : Int) x10_1 = some r) ∧ Aside0 (kq ≤ k) ∧ Drawn0 w w')
    case atStart => exact ⟨(0), (by first | rfl | (simp; done) | (simp [*]; done)), H', ⟨Nat.le_refl _⟩, by repeat (first | exact Drawn0.refl _ | apply Drawn0.step)⟩
    case round =>
      clear H'
      try clear c2
      try clear c2b0
      try clear c2b1
      try clear p2
      obtain ⟨x10_1, rfl, HA, HK1, ⟨m1, rfl⟩⟩ := hrel
      cases gk with
      | zero => exact absurd HA.out (by simp [laws_zzFits12.l0])
      | succ k1 =>
        have H := HA.out
        clear HA
        simp only [laws_zzFits12.l0] at H
        by_cases c3 : x10_1 < (l0.length : Int)
        · rw [if_pos c3] at H
          have c3b0 : decide (x10_1 < (l0.length : Int)) = true := decide_eq_true c3
          clear c3
          by_cases c4 : 0 ≤ x10_1
          · rw [if_pos c4] at H
            have c4b0 : decide (0 ≤ x10_1) = true := decide_eq_true c4
            clear c4
            by_cases c5 : x10_1 < (l0.length : Int)
            · rw [if_pos c5] at H
              have c5b0 : decide (x10_1 < (l0.length : Int)) = true := decide_eq_true c5
              clear c5
              by_cases c6 : ((rdOf ByteArray.empty l0 x10_1).size : Int) > 2147483647
              · rw [if_pos c6] at H
                have c6b0 : decide (2147483647 < ((rdOf ByteArray.empty l0 x10_1).size : Int)) = true := decide_eq_true c6
                have c6b1 : decide (2147483647 < (rdOf ByteArray.empty l0 x10_1).size) = true := decide_eq_true (by omega)
                clear c6
                obtain rfl := Option.some.inj H
                have p101 : 0 ≤ (x10_1 : Int) := of_decide_eq_true (by first | (with_reducible assumption) | assumption)
                have q101 : x10_1 < (l0.length : Int) := of_decide_eq_true (by first | (with_reducible assumption) | assumption)
                obtain ⟨ad101, e101, hx101_0⟩ := Kd.at_string HR0.out x10_1 p101 q101
                cases e101
                replace p101 := eq_true p101
                replace q101 := eq_true q101
                go_wp2
                go_ret
                exact ⟨by first | rfl | (simp; done) | (simp [*]; done), by repeat (first | exact Drawn0.refl _ | apply Drawn0.step)⟩
              · rw [if_neg c6] at H
                have c6b0 : decide (2147483647 < ((rdOf ByteArray.empty l0 x10_1).size : Int)) = false := decide_eq_false c6
                have c6b1 : decide (2147483647 < (rdOf ByteArray.empty l0 x10_1).size) = false := decide_eq_false (by omega)
                clear c6
                have H' := Aside0.mk H
                clear H
                have p101 : 0 ≤ (x10_1 : Int) := of_decide_eq_true (by first | (with_reducible assumption) | assumption)
                have q101 : x10_1 < (l0.length : Int) := of_decide_eq_true (by first | (with_reducible assumption) | assumption)
                obtain ⟨ad101, e101, hx101_0⟩ := Kd.at_string HR0.out x10_1 p101 q101
                cases e101
                replace p101 := eq_true p101
                replace q101 := eq_true q101
                go_wp2
                go_roundg k1
                case measure => have := HK1.out; omega
                case rel => exact ⟨(wrap64 (x10_1 + 1)), (by first | rfl | (simp; done) | (simp [*]; done)), H', ⟨by have := HK1.out; omega⟩, by repeat (first | exact Drawn0.refl _ | apply Drawn0.step)⟩
            · rw [if_neg c5] at H
              exact absurd H (by simp)
          · rw [if_neg c4] at H
            exact absurd H (by simp)
        · rw [if_neg c3] at H
          have c3b0 : decide (x10_1 < (l0.length : Int)) = false := decide_eq_false c3
          clear c3
          obtain rfl := Option.some.inj H
          go_wp2
          go_ret
          exact ⟨by first | rfl | (simp; done) | (simp [*]; done), by repeat (first | exact Drawn0.refl _ | apply Drawn0.step)⟩

-- NOT PRINTED: function 47 (sha1_digest_Reset)

-- NOT PRINTED: function 31 (sha1_New)

/-! ### bits_RotateLeft32: function 58 -/
def bits_RotateLeft32.f (a0 : Int) (a1 : Int) : Option (Int) := if 0 ≤ (Go.bits .and .u64 (IntKind.u64.wrap (a1)) 31) then (if 0 ≤ (IntKind.u64.wrap (32 - (Go.bits .and .u64 (IntKind.u64.wrap (a1)) 31))) then (some (Go.bits .or .u32 (shl .u32 a0 (Go.bits .and .u64 (IntKind.u64.wrap (a1)) 31)) (shr .u32 a0 (IntKind.u64.wrap (32 - (Go.bits .and .u64 (IntKind.u64.wrap (a1)) 31)))))) else (none)) else (none)
set_option maxHeartbeats 8000000 in
set_option maxRecDepth 100000 in
theorem bits_RotateLeft32.calls (a0 : Int) (a1 : Int) (r : Int) (w : World) (h : bits_RotateLeft32.f a0 a1 = some r) :
    Calls Try.prog 58 #[.int .u32 a0, .int .i64 a1] w fun e w' => e = .returned (.int .u32 r) ∧ Drawn0 w w' := by
  have H : (if 0 ≤ (Go.bits .and .u64 (IntKind.u64.wrap (a1)) 31) then (if 0 ≤ (IntKind.u64.wrap (32 - (Go.bits .and .u64 (IntKind.u64.wrap (a1)) 31))) then (some (Go.bits .or .u32 (shl .u32 a0 (Go.bits .and .u64 (IntKind.u64.wrap (a1)) 31)) (shr .u32 a0 (IntKind.u64.wrap (32 - (Go.bits .and .u64 (IntKind.u64.wrap (a1)) 31)))))) else (none)) else (none)) = some r := h
  clear h
  obtain ⟨ji3, hji3⟩ : ∃ j_ : Int, (Go.bits .and .u64 (IntKind.u64.wrap (a1)) 31) = j_ := ⟨_, rfl⟩
  replace H : (if 0 ≤ (ji3) then (if 0 ≤ (IntKind.u64.wrap (32 - (ji3))) then (some (Go.bits .or .u32 (shl .u32 a0 (ji3)) (shr .u32 a0 (IntKind.u64.wrap (32 - (ji3)))))) else (none)) else (none)) = some r := by first | (rw [hji3] at H; exact H) | (simp only [hji3] at H ⊢; exact H)
  by_cases c4 : 0 ≤ (ji3)
  · rw [if_pos c4] at H
    have c4b0 := eq_true c4
    have c4b1 : decide (0 ≤ (ji3)) = true := decide_eq_true c4
    clear c4
    obtain ⟨ji5, hji5⟩ : ∃ j_ : Int, (shl .u32 a0 (ji3)) = j_ := ⟨_, rfl⟩
    replace H : (if 0 ≤ (IntKind.u64.wrap (32 - (ji3))) then (some (Go.bits .or .u32 (ji5) (shr .u32 a0 (IntKind.u64.wrap (32 - (ji3)))))) else (none)) = some r := by first | (rw [hji5] at H; exact H) | (simp only [hji5] at H ⊢; exact H)
    have hji5_ : (IntKind.u32.wrap (a0 * 2 ^ min (ji3).toNat 32)) = ji5 := hji5
    have hji5z : (ji3) ≤ 32 → (IntKind.u32.wrap (a0 * 2 ^ (ji3).toNat)) = ji5 := shl_small hji5
    obtain ⟨ji6, hji6⟩ : ∃ j_ : Int, (IntKind.u64.wrap (32 - (ji3))) = j_ := ⟨_, rfl⟩
    replace H : (if 0 ≤ (ji6) then (some (Go.bits .or .u32 (ji5) (shr .u32 a0 (ji6)))) else (none)) = some r := by first | (rw [hji6] at H; exact H) | (simp only [hji6] at H ⊢; exact H)
    by_cases c7 : 0 ≤ (ji6)
    · rw [if_pos c7] at H
      have c7b0 := eq_true c7
      have c7b1 : decide (0 ≤ (ji6)) = true := decide_eq_true c7
      clear c7
      obtain ⟨ji8, hji8⟩ : ∃ j_ : Int, (shr .u32 a0 (ji6)) = j_ := ⟨_, rfl⟩
      replace H : (some (Go.bits .or .u32 (ji5) (ji8))) = some r := by first | (rw [hji8] at H; exact H) | (simp only [hji8] at H ⊢; exact H)
      have hji8_ : (a0 / 2 ^ min (ji6).toNat 32) = ji8 := hji8
      have hji8z : (ji6) ≤ 32 → (a0 / 2 ^ (ji6).toNat) = ji8 := shr_small hji8
      obtain rfl := Option.some.inj H
      go_enter Try.func58, Try.ntmps58
      go_wp2
      go_ret
      exact ⟨by first | rfl | (simp; done) | (simp only [← hji3, ← hji5, ← hji6, ← hji8] <;> (first | rfl | simp)) | (simp [*]; done), by repeat (first | exact Drawn0.refl _ | apply Drawn0.step)⟩
    · rw [if_neg c7] at H
      exact absurd H (by simp)
  · rw [if_neg c4] at H
    exact absurd H (by simp)

-- NOT PRINTED: function 54 (sha1_blockGeneric)

-- NOT PRINTED: function 48 (sha1_block)

-- NOT PRINTED: function 32 (sha1_digest_Write)

/-! ### sha1_bePutUint64: function 55 -/
def sha1_bePutUint64.l0 : Nat → List Int → Int → Int → Option (List Int)
  | 0, _, _, _ => none
  | k + 1, x0, x1, x4 => if x4 < 8 then (if 0 ≤ (wrap64 (56 - (wrap64 (8 * x4)))) then (if 0 ≤ x4 then (if x4 < (x0.length : Int) then (sha1_bePutUint64.l0 k (x0.set (x4 : Int).toNat ((shr .u64 x1 (wrap64 (56 - (wrap64 (8 * x4))))) % 256)) x1 (wrap64 (x4 + 1))) else (none)) else (none)) else (none)) else (some x0)
def sha1_bePutUint64.f (k : Nat) (l0 : List Int) (a1 : Int) : Option (List Int) := if 7 < (l0.length : Int) then (sha1_bePutUint64.l0 k l0 a1 0) else (none)
theorem sha1_bePutUint64.mono_l : ∀ k, (∀ y0 y1 y2, LeO (sha1_bePutUint64.l0 k y0 y1 y2) (sha1_bePutUint64.l0 (k + 1) y0 y1 y2))
  | 0 => fun _ _ _ r h => by simp [sha1_bePutUint64.l0] at h
  | k + 1 => by
    have ih0 := sha1_bePutUint64.mono_l k
    · intro y0 y1 y2
      unfold sha1_bePutUint64.l0
      repeat' first
      | (with_reducible exact ih0 _ _ _)
      | (with_reducible exact LeO.refl _)
      | (with_reducible exact LeO.none _)
      | (with_reducible refine LeO.ite ?_ ?_)
      | (with_reducible refine LeO.bind ?_ (fun _ => ?_))
      | exact ih0 _ _ _
      | exact LeO.none _
      | refine LeO.ite ?_ ?_
      | refine LeO.bind ?_ (fun _ => ?_)
theorem sha1_bePutUint64.mono : ∀ a0 a1 k, LeO (sha1_bePutUint64.f k a0 a1) (sha1_bePutUint64.f (k + 1) a0 a1) := by
  intro a0 a1 k
  have ih0 := sha1_bePutUint64.mono_l k
  unfold sha1_bePutUint64.f
  repeat' first
      | (with_reducible exact ih0 _ _ _)
      | (with_reducible exact LeO.refl _)
      | (with_reducible exact LeO.none _)
      | (with_reducible refine LeO.ite ?_ ?_)
      | (with_reducible refine LeO.bind ?_ (fun _ => ?_))
      | exact ih0 _ _ _
      | exact LeO.none _
      | refine LeO.ite ?_ ?_
      | refine LeO.bind ?_ (fun _ => ?_)
set_option maxHeartbeats 8000000 in
set_option maxRecDepth 100000 in
theorem sha1_bePutUint64.calls (k : Nat) (P0_ : Nat → Prop) (u9000_ : Value) (l0 : List Int) (a1 : Int) (r : List Int) (w0 w : World) (hB : Below w0.heap.size w0 w) (ho0 : Kd.R (Kd.int .u8) 5 w w0.heap.size P0_ u9000_ l0) (h : sha1_bePutUint64.f k l0 a1 = some r) :
    Calls Try.prog 55 #[u9000_, .int .u64 a1] w fun e w' => e = .returned (.tuple #[]) ∧ Kd.R (Kd.int .u8) 5 w' w0.heap.size (fun k_ => (P0_ k_ ∨ w.heap.size ≤ k_)) u9000_ r ∧ Below w0.heap.size w0 w' ∧ Kept w w' (fun k_ => P0_ k_) := by
  have HO0 := Aside0.mk (show Kd.R (Kd.int .u8) 5 w w0.heap.size (fun k_ => (P0_ k_ ∨ w.heap.size ≤ k_)) u9000_ l0 from Kd.R_mono ho0 (fun k_ hk => (.inl hk)))
  have HK := Aside0.mk (Kept.refl w (fun k_ => P0_ k_))
  have HW0 := Aside0.mk hB.size
  have HB := Aside0.mk hB
  clear hB
  have H : (if 7 < (l0.length : Int) then (sha1_bePutUint64.l0 k l0 a1 0) else (none)) = some r := h
  clear h
  by_cases c3 : 7 < (l0.length : Int)
  · rw [if_pos c3] at H
    have c3b0 : decide (7 < (l0.length : Int)) = true := decide_eq_true c3
    have c3b1 : decide (7 < l0.length) = true := decide_eq_true (by omega)
    clear c3
    have H' := Aside0.mk H
    clear H
    obtain ⟨Ao4, co4, eo4⟩ := Kd.R_slice HO0.out
    subst eo4
    have p102 : 0 ≤ (7 : Int) := (by omega)
    have q102 : 7 < (l0.length : Int) := of_decide_eq_true (by first | (with_reducible assumption) | assumption)
    obtain ⟨ad102, e102, hx102_0⟩ := Kd.at_int (Kd.R_reads' HO0.out).2.2 7 p102 q102
    cases e102
    (try simp only [show (7 : Int).toNat = 7 from rfl, Nat.reduceMul, Nat.reduceEqDiff, Go.Addr.add, ↓reduceIte] at hx102_0)
    have qi102 : (7 < l0.length) = True := eq_true (by omega)
    (try rw [show ((7 : Int)).toNat = 7 from rfl] at hx102_0)
    replace p102 := eq_true p102
    replace q102 := eq_true q102
    go_enter Try.func55, Try.ntmps55
    go_wp2
    go_loopg [4] k (fun kq v4 w' => ∃ (x0_1 : List Int) (x4_1 : Int), v4 = .int .i64 x4_1 ∧ Aside0 (sha1_bePutUint64.l0 kq x0_1 a1 x4_1 = some r) ∧ Aside0 (kq ≤ k) ∧ Aside0 (Kd.R (Kd.int .u8) 5 w' w0.heap.size (fun k_ => (P0_ k_ ∨ w.heap.size ≤ k_)) (.slice (some ad102) l0.length co4) x0_1) ∧ Aside0 (Kept w w' (fun k_ => P0_ k_)) ∧ Aside0 (Below w0.heap.size w0 w'))
    case atStart => exact ⟨(l0), (0), (by first | rfl | (simp; done) | (simp [*]; done)), H', ⟨Nat.le_refl _⟩, ⟨by (with_reducible repeat (first | apply Kd.R_alloc | apply Kd.R_drewN | apply Kd.R_drew)); exact HO0.out⟩, ⟨by repeat (first | (with_reducible first | exact HK.out | apply Kept.alloc | apply Kept.drewN | apply Kept.drew) | exact HK.out)⟩, ⟨by repeat (first | (with_reducible first | exact HB.out | apply below_alloc | apply pw_below_drewN | apply below_drew1) | exact HB.out)⟩⟩
    case round =>
      clear H'
      try clear p1
      try clear q1
      try clear hx1
      try clear qi1
      try clear p2
      try clear c3
      try clear c3b0
      try clear c3b1
      try clear hx102_0
      try clear p102
      try clear q102
      obtain ⟨x0_1, x4_1, rfl, HA, HK1, HO_0, HK, HB⟩ := hrel
      have hl0_1 := (Kd.R_reads' HO_0.out).1
      rw [hl0_1] at HO_0
      (try simp only [hl0_1])
      cases gk with
      | zero => exact absurd HA.out (by simp [sha1_bePutUint64.l0])
      | succ k1 =>
        have H := HA.out
        clear HA
        simp only [sha1_bePutUint64.l0] at H
        by_cases c5 : x4_1 < 8
        · rw [if_pos c5] at H
          have c5b0 : decide (x4_1 < 8) = true := decide_eq_true c5
          clear c5
          obtain ⟨ji6, hji6⟩ : ∃ j_ : Int, (wrap64 (56 - (wrap64 (8 * x4_1)))) = j_ := ⟨_, rfl⟩
          replace H : (if 0 ≤ (ji6) then (if 0 ≤ x4_1 then (if x4_1 < (x0_1.length : Int) then (sha1_bePutUint64.l0 k1 (x0_1.set (x4_1 : Int).toNat ((shr .u64 a1 (ji6)) % 256)) a1 (wrap64 (x4_1 + 1))) else (none)) else (none)) else (none)) = some r := by first | (rw [hji6] at H; exact H) | (simp only [hji6] at H ⊢; exact H)
          have hji6w : (IntKind.i64.wrap (56 - (wrap64 (8 * x4_1)))) = ji6 := (i64_w _).trans hji6
          by_cases c7 : 0 ≤ (ji6)
          · rw [if_pos c7] at H
            have c7b0 := eq_true c7
            have c7b1 : decide (0 ≤ (ji6)) = true := decide_eq_true c7
            clear c7
            obtain ⟨ji8, hji8⟩ : ∃ j_ : Int, (shr .u64 a1 (ji6)) = j_ := ⟨_, rfl⟩
            replace H : (if 0 ≤ x4_1 then (if x4_1 < (x0_1.length : Int) then (sha1_bePutUint64.l0 k1 (x0_1.set (x4_1 : Int).toNat ((ji8) % 256)) a1 (wrap64 (x4_1 + 1))) else (none)) else (none)) = some r := by first | (rw [hji8] at H; exact H) | (simp only [hji8] at H ⊢; exact H)
            have hji8_ : (a1 / 2 ^ min (ji6).toNat 64) = ji8 := hji8
            have hji8z : (ji6) ≤ 64 → (a1 / 2 ^ (ji6).toNat) = ji8 := shr_small hji8
            by_cases c9 : 0 ≤ x4_1
            · rw [if_pos c9] at H
              have c9b0 : decide (0 ≤ x4_1) = true := decide_eq_true c9
              clear c9
              by_cases c10 : x4_1 < (x0_1.length : Int)
              · rw [if_pos c10] at H
                have c10b0 : decide (x4_1 < (x0_1.length : Int)) = true := decide_eq_true c10
                clear c10
                obtain ⟨y103, hy103⟩ : ∃ y_ : List Int, y_ = (x0_1.set (x4_1 : Int).toNat ((ji8) % 256)) := ⟨_, rfl⟩
                replace H : (sha1_bePutUint64.l0 k1 y103 a1 (wrap64 (x4_1 + 1))) = some r := by first | (rw [hy103]; with_reducible exact H) | (have H2_ := (Option.bind_some _ _).symm.trans H; rw [hy103]; with_reducible exact H2_) | (have H2_ := (Option.bind_some _ _).symm.trans H; with_reducible exact H2_) | with_reducible exact H | (rw [hy103]; exact H) | exact H
                have Ny103 := Aside0.mk hy103
                clear hy103
                have H' := Aside0.mk H
                clear H
                have p11 : 0 ≤ (x4_1 : Int) := of_decide_eq_true (by first | (with_reducible assumption) | assumption)
                have q11 : (x4_1 : Int) < ((x0_1.length : Int) : Int) := of_decide_eq_true (by first | (with_reducible assumption) | assumption)
                obtain ⟨go11, co11, eo11, gb11, gl11, cl11, HG11⟩ := Kd.R_form HO_0.out (by omega)
                (first | cases eo11 | (injection eo11 with ea_ en_ ec_; (first | subst ea_ | (injection ea_ with ea_; subst ea_)); subst ec_; clear en_))
                have GB11 := Aside0.mk gb11
                have GG11 := Aside0.mk HG11
                clear gb11 gl11 HG11
                have HMgo11 := Aside0.mk (show (P0_ go11 ∨ w.heap.size ≤ go11) from (HO_0.out.1 _ rfl))
                (first | simp only [add_plain] at hx102_0 | skip)
                obtain ⟨hx11_0, hf11_0⟩ := Kd.R_celln 0 HO_0.out (x4_1 : Int) p11 q11
                replace p11 := eq_true p11
                replace q11 := eq_true q11
                have HP12 := Kd.R_putg HO_0.out (x4_1 : Int) ((ji8) % 256)
                go_wp2_with (first | ((with_reducible refine gate_store (t := 5) (p := 20) rfl ?_); refine store_event (t := 5) (p := 20) (v := ?vo_w13) (w1 := (wr.setCell ⟨go11, (x4_1 : Int).toNat, none⟩ (.int .u8 ((ji8) % 256)))) ?hg ?ho ?hn ?hr ?_; (case ho => rfl); (case hg => rfl); (case hn => rfl); (case hr => first | (go_simp; done) | (go_simp; rfl)); intro w13 hw; have hg : wr.grownBy w13 (some go11) := (by rw [hw]; exact HP12.2); have hp_ : Kd.R (Kd.int .u8) 5 w13 w0.heap.size (fun k_ => (P0_ k_ ∨ w.heap.size ≤ k_)) (.slice (some ⟨go11, 0, none⟩) x0_1.length co4) y103 := (by rw [hw, Ny103.out]; exact HP12.1); clear HP12; have n0_ := Aside0.mk (hp_); have n1_ := Aside0.mk ((by rw [hw]; exact below_set (HB.out) GB11.out : Below w0.heap.size w0 w13)); have n2_ := Aside0.mk (Kept.of_grown (S := (fun k_ => P0_ k_)) hg (by repeat (first | (with_reducible first | exact HK.out | apply Kept.alloc | apply Kept.drewN | apply Kept.drew) | exact HK.out)) (fun k_ e_ => (HO_0.out.1 k_ e_))); clear HO_0; clear HB; clear HK; have HO_0 := n0_; have HB := n1_; have HK := n2_; clear n0_ n1_ n2_; clear hg hw hp_))
                (try simp only [← hl0_1])
                go_roundg k1
                case measure => have := HK1.out; omega
                case rel => exact ⟨(y103), (wrap64 (x4_1 + 1)), (by first | rfl | (simp; done) | (simp [*]; done)), H', ⟨by have := HK1.out; omega⟩, ⟨by (try simp only [hl0_1]); (with_reducible repeat (first | apply Kd.R_alloc | apply Kd.R_drewN | apply Kd.R_drew)); exact HO_0.out⟩, ⟨by repeat (first | (with_reducible first | exact HK.out | apply Kept.alloc | apply Kept.drewN | apply Kept.drew) | exact HK.out)⟩, ⟨by repeat (first | (with_reducible first | exact HB.out | apply below_alloc | apply pw_below_drewN | apply below_drew1) | exact HB.out)⟩⟩
              · rw [if_neg c10] at H
                exact absurd H (by simp)
            · rw [if_neg c9] at H
              exact absurd H (by simp)
          · rw [if_neg c7] at H
            exact absurd H (by simp)
        · rw [if_neg c5] at H
          have c5b0 : decide (x4_1 < 8) = false := decide_eq_false c5
          clear c5
          obtain rfl := Option.some.inj H
          go_wp2
          first | go_end0 | ((try simp only [Exit.inBlock, Exit.then]); refine bodyPost_ret (results_none rfl _ _ _) rfl ?_)
          exact ⟨by first | rfl | (simp [errW_none, errW_some] <;> rfl) | (simp [*, errW_none, errW_some] <;> rfl), (by first | exact (by (with_reducible repeat (first | apply Kd.R_alloc | apply Kd.R_drewN | apply Kd.R_drew)); exact HO_0.out) | (simp only [hl0_1]; exact (by (with_reducible repeat (first | apply Kd.R_alloc | apply Kd.R_drewN | apply Kd.R_drew)); exact HO_0.out))), by repeat (first | (with_reducible first | exact HB.out | apply below_alloc | apply pw_below_drewN | apply below_drew1) | exact HB.out), by repeat (first | (with_reducible first | exact HK.out | apply Kept.alloc | apply Kept.drewN | apply Kept.drew) | exact HK.out)⟩
  · rw [if_neg c3] at H
    exact absurd H (by simp)

/-! ### sha1_bePutUint32: function 56 -/
def sha1_bePutUint32.f (l0 : List Int) (a1 : Int) : Option (List Int) := if 3 < (l0.length : Int) then (if 0 < (l0.length : Int) then (if 1 < (l0.length : Int) then (if 2 < (l0.length : Int) then (some ((((l0.set (0 : Int).toNat ((a1 / 16777216) % 256)).set (1 : Int).toNat ((a1 / 65536) % 256)).set (2 : Int).toNat ((a1 / 256) % 256)).set (3 : Int).toNat ((a1) % 256))) else (none)) else (none)) else (none)) else (none)
set_option maxHeartbeats 8000000 in
set_option maxRecDepth 100000 in
theorem sha1_bePutUint32.calls (P0_ : Nat → Prop) (u9000_ : Value) (l0 : List Int) (a1 : Int) (r : List Int) (w0 w : World) (hB : Below w0.heap.size w0 w) (ho0 : Kd.R (Kd.int .u8) 5 w w0.heap.size P0_ u9000_ l0) (h : sha1_bePutUint32.f l0 a1 = some r) :
    Calls Try.prog 56 #[u9000_, .int .u32 a1] w fun e w' => e = .returned (.tuple #[]) ∧ Kd.R (Kd.int .u8) 5 w' w0.heap.size (fun k_ => (P0_ k_ ∨ w.heap.size ≤ k_)) u9000_ r ∧ Below w0.heap.size w0 w' ∧ Kept w w' (fun k_ => P0_ k_) := by
  have HO0 := Aside0.mk (show Kd.R (Kd.int .u8) 5 w w0.heap.size (fun k_ => (P0_ k_ ∨ w.heap.size ≤ k_)) u9000_ l0 from Kd.R_mono ho0 (fun k_ hk => (.inl hk)))
  have HK := Aside0.mk (Kept.refl w (fun k_ => P0_ k_))
  have HW0 := Aside0.mk hB.size
  have HB := Aside0.mk hB
  clear hB
  have H : (if 3 < (l0.length : Int) then (if 0 < (l0.length : Int) then (if 1 < (l0.length : Int) then (if 2 < (l0.length : Int) then (some ((((l0.set (0 : Int).toNat ((a1 / 16777216) % 256)).set (1 : Int).toNat ((a1 / 65536) % 256)).set (2 : Int).toNat ((a1 / 256) % 256)).set (3 : Int).toNat ((a1) % 256))) else (none)) else (none)) else (none)) else (none)) = some r := h
  clear h
  by_cases c3 : 3 < (l0.length : Int)
  · rw [if_pos c3] at H
    have c3b0 : decide (3 < (l0.length : Int)) = true := decide_eq_true c3
    have c3b1 : decide (3 < l0.length) = true := decide_eq_true (by omega)
    clear c3
    by_cases c4 : 0 < (l0.length : Int)
    · rw [if_pos c4] at H
      have c4b0 : decide (0 < (l0.length : Int)) = true := decide_eq_true c4
      have c4b1 : decide (0 < l0.length) = true := decide_eq_true (by omega)
      clear c4
      obtain ⟨y105, hy105⟩ : ∃ y_ : List Int, y_ = (l0.set (0 : Int).toNat ((a1 / 16777216) % 256)) := ⟨_, rfl⟩
      replace H : (if 1 < (l0.length : Int) then (if 2 < (l0.length : Int) then (some (((y105.set (1 : Int).toNat ((a1 / 65536) % 256)).set (2 : Int).toNat ((a1 / 256) % 256)).set (3 : Int).toNat ((a1) % 256))) else (none)) else (none)) = some r := by first | (rw [hy105]; with_reducible exact H) | (have H2_ := (Option.bind_some _ _).symm.trans H; rw [hy105]; with_reducible exact H2_) | (have H2_ := (Option.bind_some _ _).symm.trans H; with_reducible exact H2_) | with_reducible exact H | (rw [hy105]; exact H) | exact H
      have Ny105 := Aside0.mk hy105
      clear hy105
      by_cases c6 : 1 < (l0.length : Int)
      · rw [if_pos c6] at H
        have c6b0 : decide (1 < (l0.length : Int)) = true := decide_eq_true c6
        have c6b1 : decide (1 < l0.length) = true := decide_eq_true (by omega)
        clear c6
        obtain ⟨y106, hy106⟩ : ∃ y_ : List Int, y_ = (y105.set (1 : Int).toNat ((a1 / 65536) % 256)) := ⟨_, rfl⟩
        replace H : (if 2 < (l0.length : Int) then (some ((y106.set (2 : Int).toNat ((a1 / 256) % 256)).set (3 : Int).toNat ((a1) % 256))) else (none)) = some r := by first | (rw [hy106]; with_reducible exact H) | (have H2_ := (Option.bind_some _ _).symm.trans H; rw [hy106]; with_reducible exact H2_) | (have H2_ := (Option.bind_some _ _).symm.trans H; with_reducible exact H2_) | with_reducible exact H | (rw [hy106]; exact H) | exact H
        have Ny106 := Aside0.mk hy106
        clear hy106
        by_cases c8 : 2 < (l0.length : Int)
        · rw [if_pos c8] at H
          have c8b0 : decide (2 < (l0.length : Int)) = true := decide_eq_true c8
          have c8b1 : decide (2 < l0.length) = true := decide_eq_true (by omega)
          clear c8
          obtain ⟨y107, hy107⟩ : ∃ y_ : List Int, y_ = (y106.set (2 : Int).toNat ((a1 / 256) % 256)) := ⟨_, rfl⟩
          replace H : (some (y107.set (3 : Int).toNat ((a1) % 256))) = some r := by first | (rw [hy107]; with_reducible exact H) | (have H2_ := (Option.bind_some _ _).symm.trans H; rw [hy107]; with_reducible exact H2_) | (have H2_ := (Option.bind_some _ _).symm.trans H; with_reducible exact H2_) | with_reducible exact H | (rw [hy107]; exact H) | exact H
          have Ny107 := Aside0.mk hy107
          clear hy107
          obtain ⟨y108, hy108⟩ : ∃ y_ : List Int, y_ = (y107.set (3 : Int).toNat ((a1) % 256)) := ⟨_, rfl⟩
          replace H : (some y108) = some r := by first | (rw [hy108]; with_reducible exact H) | (have H2_ := (Option.bind_some _ _).symm.trans H; rw [hy108]; with_reducible exact H2_) | (have H2_ := (Option.bind_some _ _).symm.trans H; with_reducible exact H2_) | with_reducible exact H | (rw [hy108]; exact H) | exact H
          have Ny108 := Aside0.mk hy108
          clear hy108
          obtain rfl := Option.some.inj H
          obtain ⟨Ao11, co11, eo11⟩ := Kd.R_slice HO0.out
          subst eo11
          have p104 : 0 ≤ (3 : Int) := (by omega)
          have q104 : 3 < (l0.length : Int) := of_decide_eq_true (by first | (with_reducible assumption) | assumption)
          obtain ⟨ad104, e104, hx104_0⟩ := Kd.at_int (Kd.R_reads' HO0.out).2.2 3 p104 q104
          cases e104
          (try simp only [show (3 : Int).toNat = 3 from rfl, Nat.reduceMul, Nat.reduceEqDiff, Go.Addr.add, ↓reduceIte] at hx104_0)
          have qi104 : (3 < l0.length) = True := eq_true (by omega)
          (try rw [show ((3 : Int)).toNat = 3 from rfl] at hx104_0)
          replace p104 := eq_true p104
          replace q104 := eq_true q104
          have p5 : 0 ≤ (0 : Int) := (by omega)
          have q5 : (0 : Int) < ((l0.length : Int) : Int) := of_decide_eq_true (by first | (with_reducible assumption) | assumption)
          have qi5 : (0 < l0.length) = True := eq_true (by omega)
          obtain ⟨go5, co5, eo5, gb5, gl5, cl5, HG5⟩ := Kd.R_form HO0.out (by omega)
          (first | cases eo5 | (injection eo5 with ea_ en_ ec_; (first | subst ea_ | (injection ea_ with ea_; subst ea_)); subst ec_; clear en_))
          have GB5 := Aside0.mk gb5
          have GG5 := Aside0.mk HG5
          clear gb5 gl5 HG5
          have HMgo5 := Aside0.mk (show (P0_ go5 ∨ w.heap.size ≤ go5) from (HO0.out.1 _ rfl))
          (first | simp only [add_plain] at hx104_0 | skip)
          obtain ⟨hx5_0, hf5_0⟩ := Kd.R_celln 0 HO0.out (0 : Int) p5 q5
          (try rw [show ((0 : Int)).toNat = 0 from rfl] at hx5_0)
          (try simp only [Nat.reduceMul, Nat.zero_mul, Nat.zero_add, Nat.reduceAdd] at hx5_0)
          (try rw [show ((0 : Int)).toNat = 0 from rfl] at hf5_0)
          (try simp only [Nat.reduceMul, Nat.zero_mul, Nat.zero_add, Nat.reduceAdd] at hf5_0)
          replace p5 := eq_true p5
          replace q5 := eq_true q5
          have HP12 := Kd.R_putg HO0.out (0 : Int) ((a1 / 16777216) % 256)
          go_enter Try.func56, Try.ntmps56
          go_wp2_with (first | ((with_reducible refine gate_store (t := 5) (p := 11) rfl ?_); refine store_event (t := 5) (p := 11) (v := ?vo_w13) (w1 := (w.setCell ⟨go5, (0 : Int).toNat, none⟩ (.int .u8 ((a1 / 16777216) % 256)))) ?hg ?ho ?hn ?hr ?_; (case ho => rfl); (case hg => rfl); (case hn => rfl); (case hr => first | (go_simp; done) | (go_simp; rfl)); intro w13 hw; have hg : w.grownBy w13 (some go5) := (by rw [hw]; exact HP12.2); have hp_ : Kd.R (Kd.int .u8) 5 w13 w0.heap.size (fun k_ => (P0_ k_ ∨ w.heap.size ≤ k_)) (.slice (some ⟨go5, 0, none⟩) l0.length co11) y105 := (by rw [hw, Ny105.out]; exact HP12.1); clear HP12; have n0_ := Aside0.mk (hp_); have n1_ := Aside0.mk ((by rw [hw]; exact below_set (HB.out) GB5.out : Below w0.heap.size w0 w13)); have n2_ := Aside0.mk (Kept.of_grown (S := (fun k_ => P0_ k_)) hg (by repeat (first | (with_reducible first | exact HK.out | apply Kept.alloc | apply Kept.drewN | apply Kept.drew) | exact HK.out)) (fun k_ e_ => (HO0.out.1 k_ e_))); clear HO0; clear HB; clear HK; have HO0 := n0_; have HB := n1_; have HK := n2_; clear n0_ n1_ n2_; clear hg hw hp_; have p7 : 0 ≤ (1 : Int) := (by omega); have q7 : (1 : Int) < ((l0.length : Int) : Int) := of_decide_eq_true (by first | (with_reducible assumption) | assumption); have qi7 : (1 < l0.length) = True := eq_true (by omega); obtain ⟨hx7_0, hf7_0⟩ := Kd.R_celln 0 HO0.out (1 : Int) p7 q7; (try rw [show ((1 : Int)).toNat = 1 from rfl] at hx7_0); (try simp only [Nat.reduceMul, Nat.zero_mul, Nat.zero_add, Nat.reduceAdd] at hx7_0); (try rw [show ((1 : Int)).toNat = 1 from rfl] at hf7_0); (try simp only [Nat.reduceMul, Nat.zero_mul, Nat.zero_add, Nat.reduceAdd] at hf7_0); replace p7 := eq_true p7; replace q7 := eq_true q7; obtain ⟨hy14_, hz14_⟩ := Kd.R_celln 0 HO0.out (1 : Int) (by omega) (of_decide_eq_true (by first | (with_reducible assumption) | assumption)); (try simp only [Int.reduceToNat, Int.toNat_zero, Int.toNat_ofNat, Nat.reduceMul, Nat.zero_mul, Nat.zero_add] at hy14_ hz14_); (try rw [show ((1 : Int)).toNat = 1 from rfl] at hy14_); (try rw [show ((1 : Int)).toNat = 1 from rfl] at hz14_); have HP14 := Kd.R_putg HO0.out (1 : Int) ((a1 / 65536) % 256)) | ((with_reducible refine gate_store (t := 5) (p := 16) rfl ?_); refine store_event (t := 5) (p := 16) (v := ?vo_w15) (w1 := (w13.setCell ⟨go5, (1 : Int).toNat, none⟩ (.int .u8 ((a1 / 65536) % 256)))) ?hg ?ho ?hn ?hr ?_; (case ho => rfl); (case hg => rfl); (case hn => rfl); (case hr => first | (go_simp; done) | (go_simp; rfl)); intro w15 hw; have hg : w13.grownBy w15 (some go5) := (by rw [hw]; exact HP14.2); have hp_ : Kd.R (Kd.int .u8) 5 w15 w0.heap.size (fun k_ => (P0_ k_ ∨ w.heap.size ≤ k_)) (.slice (some ⟨go5, 0, none⟩) l0.length co11) y106 := (by rw [hw, Ny106.out]; exact HP14.1); clear HP14; have n0_ := Aside0.mk (hp_); have n1_ := Aside0.mk ((by rw [hw]; exact below_set (HB.out) GB5.out : Below w0.heap.size w0 w15)); have n2_ := Aside0.mk (Kept.of_grown (S := (fun k_ => P0_ k_)) hg (by repeat (first | (with_reducible first | exact HK.out | apply Kept.alloc | apply Kept.drewN | apply Kept.drew) | exact HK.out)) (fun k_ e_ => (HO0.out.1 k_ e_))); clear HO0; clear HB; clear HK; have HO0 := n0_; have HB := n1_; have HK := n2_; clear n0_ n1_ n2_; clear hg hw hp_; have p9 : 0 ≤ (2 : Int) := (by omega); have q9 : (2 : Int) < ((l0.length : Int) : Int) := of_decide_eq_true (by first | (with_reducible assumption) | assumption); have qi9 : (2 < l0.length) = True := eq_true (by omega); obtain ⟨hx9_0, hf9_0⟩ := Kd.R_celln 0 HO0.out (2 : Int) p9 q9; (try rw [show ((2 : Int)).toNat = 2 from rfl] at hx9_0); (try simp only [Nat.reduceMul, Nat.zero_mul, Nat.zero_add, Nat.reduceAdd] at hx9_0); (try rw [show ((2 : Int)).toNat = 2 from rfl] at hf9_0); (try simp only [Nat.reduceMul, Nat.zero_mul, Nat.zero_add, Nat.reduceAdd] at hf9_0); replace p9 := eq_true p9; replace q9 := eq_true q9; obtain ⟨hy16_, hz16_⟩ := Kd.R_celln 0 HO0.out (2 : Int) (by omega) (of_decide_eq_true (by first | (with_reducible assumption) | assumption)); (try simp only [Int.reduceToNat, Int.toNat_zero, Int.toNat_ofNat, Nat.reduceMul, Nat.zero_mul, Nat.zero_add] at hy16_ hz16_); (try rw [show ((2 : Int)).toNat = 2 from rfl] at hy16_); (try rw [show ((2 : Int)).toNat = 2 from rfl] at hz16_); have HP16 := Kd.R_putg HO0.out (2 : Int) ((a1 / 256) % 256)) | ((with_reducible refine gate_store (t := 5) (p := 21) rfl ?_); refine store_event (t := 5) (p := 21) (v := ?vo_w17) (w1 := (w15.setCell ⟨go5, (2 : Int).toNat, none⟩ (.int .u8 ((a1 / 256) % 256)))) ?hg ?ho ?hn ?hr ?_; (case ho => rfl); (case hg => rfl); (case hn => rfl); (case hr => first | (go_simp; done) | (go_simp; rfl)); intro w17 hw; have hg : w15.grownBy w17 (some go5) := (by rw [hw]; exact HP16.2); have hp_ : Kd.R (Kd.int .u8) 5 w17 w0.heap.size (fun k_ => (P0_ k_ ∨ w.heap.size ≤ k_)) (.slice (some ⟨go5, 0, none⟩) l0.length co11) y107 := (by rw [hw, Ny107.out]; exact HP16.1); clear HP16; have n0_ := Aside0.mk (hp_); have n1_ := Aside0.mk ((by rw [hw]; exact below_set (HB.out) GB5.out : Below w0.heap.size w0 w17)); have n2_ := Aside0.mk (Kept.of_grown (S := (fun k_ => P0_ k_)) hg (by repeat (first | (with_reducible first | exact HK.out | apply Kept.alloc | apply Kept.drewN | apply Kept.drew) | exact HK.out)) (fun k_ e_ => (HO0.out.1 k_ e_))); clear HO0; clear HB; clear HK; have HO0 := n0_; have HB := n1_; have HK := n2_; clear n0_ n1_ n2_; clear hg hw hp_; have p10 : 0 ≤ (3 : Int) := (by omega); have q10 : (3 : Int) < ((l0.length : Int) : Int) := of_decide_eq_true (by first | (with_reducible assumption) | assumption); have qi10 : (3 < l0.length) = True := eq_true (by omega); obtain ⟨hx10_0, hf10_0⟩ := Kd.R_celln 0 HO0.out (3 : Int) p10 q10; (try rw [show ((3 : Int)).toNat = 3 from rfl] at hx10_0); (try simp only [Nat.reduceMul, Nat.zero_mul, Nat.zero_add, Nat.reduceAdd] at hx10_0); (try rw [show ((3 : Int)).toNat = 3 from rfl] at hf10_0); (try simp only [Nat.reduceMul, Nat.zero_mul, Nat.zero_add, Nat.reduceAdd] at hf10_0); replace p10 := eq_true p10; replace q10 := eq_true q10; obtain ⟨hy18_, hz18_⟩ := Kd.R_celln 0 HO0.out (3 : Int) (by omega) (of_decide_eq_true (by first | (with_reducible assumption) | assumption)); (try simp only [Int.reduceToNat, Int.toNat_zero, Int.toNat_ofNat, Nat.reduceMul, Nat.zero_mul, Nat.zero_add] at hy18_ hz18_); (try rw [show ((3 : Int)).toNat = 3 from rfl] at hy18_); (try rw [show ((3 : Int)).toNat = 3 from rfl] at hz18_); have HP18 := Kd.R_putg HO0.out (3 : Int) ((a1) % 256)) | ((with_reducible refine gate_store (t := 5) (p := 25) rfl ?_); refine store_event (t := 5) (p := 25) (v := ?vo_w19) (w1 := (w17.setCell ⟨go5, (3 : Int).toNat, none⟩ (.int .u8 ((a1) % 256)))) ?hg ?ho ?hn ?hr ?_; (case ho => rfl); (case hg => rfl); (case hn => rfl); (case hr => first | (go_simp; done) | (go_simp; rfl)); intro w19 hw; have hg : w17.grownBy w19 (some go5) := (by rw [hw]; exact HP18.2); have hp_ : Kd.R (Kd.int .u8) 5 w19 w0.heap.size (fun k_ => (P0_ k_ ∨ w.heap.size ≤ k_)) (.slice (some ⟨go5, 0, none⟩) l0.length co11) y108 := (by rw [hw, Ny108.out]; exact HP18.1); clear HP18; have n0_ := Aside0.mk (hp_); have n1_ := Aside0.mk ((by rw [hw]; exact below_set (HB.out) GB5.out : Below w0.heap.size w0 w19)); have n2_ := Aside0.mk (Kept.of_grown (S := (fun k_ => P0_ k_)) hg (by repeat (first | (with_reducible first | exact HK.out | apply Kept.alloc | apply Kept.drewN | apply Kept.drew) | exact HK.out)) (fun k_ e_ => (HO0.out.1 k_ e_))); clear HO0; clear HB; clear HK; have HO0 := n0_; have HB := n1_; have HK := n2_; clear n0_ n1_ n2_; clear hg hw hp_))
          first | go_end0 | ((try simp only [Exit.inBlock, Exit.then]); refine bodyPost_ret (results_none rfl _ _ _) rfl ?_)
          exact ⟨by first | rfl | (simp [errW_none, errW_some] <;> rfl) | (simp [*, errW_none, errW_some] <;> rfl), by (with_reducible repeat (first | apply Kd.R_alloc | apply Kd.R_drewN | apply Kd.R_drew)); exact HO0.out, by repeat (first | (with_reducible first | exact HB.out | apply below_alloc | apply pw_below_drewN | apply below_drew1) | exact HB.out), by repeat (first | (with_reducible first | exact HK.out | apply Kept.alloc | apply Kept.drewN | apply Kept.drew) | exact HK.out)⟩
        · rw [if_neg c8] at H
          exact absurd H (by simp)
      · rw [if_neg c6] at H
        exact absurd H (by simp)
    · rw [if_neg c4] at H
      exact absurd H (by simp)
  · rw [if_neg c3] at H
    exact absurd H (by simp)

-- NOT PRINTED: function 49 (sha1_digest_checkSum)

-- NOT PRINTED: function 33 (sha1_digest_Sum)

-- NOT PRINTED: function 20 (sha1_ZZSums)

-- NOT PRINTED: function 8 (impl_SHA1)

-- NOT PRINTED: function 21 (spec_padded)

/-! ### spec_turned: function 34 -/
def spec_turned.f (a0 : Int) (a1 : Int) : Option (Int) := if 0 ≤ a1 then (if 0 ≤ (wrap64 (32 - a1)) then (some (Go.bits .or .u32 (shl .u32 a0 a1) (shr .u32 a0 (wrap64 (32 - a1))))) else (none)) else (none)
set_option maxHeartbeats 8000000 in
set_option maxRecDepth 100000 in
theorem spec_turned.calls (a0 : Int) (a1 : Int) (r : Int) (w : World) (h : spec_turned.f a0 a1 = some r) :
    Calls Try.prog 34 #[.int .u32 a0, .int .i64 a1] w fun e w' => e = .returned (.int .u32 r) ∧ Drawn0 w w' := by
  have H : (if 0 ≤ a1 then (if 0 ≤ (wrap64 (32 - a1)) then (some (Go.bits .or .u32 (shl .u32 a0 a1) (shr .u32 a0 (wrap64 (32 - a1))))) else (none)) else (none)) = some r := h
  clear h
  by_cases c3 : 0 ≤ a1
  · rw [if_pos c3] at H
    have c3b0 := eq_true c3
    have c3b1 : decide (0 ≤ a1) = true := decide_eq_true c3
    clear c3
    obtain ⟨ji4, hji4⟩ : ∃ j_ : Int, (shl .u32 a0 a1) = j_ := ⟨_, rfl⟩
    replace H : (if 0 ≤ (wrap64 (32 - a1)) then (some (Go.bits .or .u32 (ji4) (shr .u32 a0 (wrap64 (32 - a1))))) else (none)) = some r := by first | (rw [hji4] at H; exact H) | (simp only [hji4] at H ⊢; exact H)
    have hji4_ : (IntKind.u32.wrap (a0 * 2 ^ min a1.toNat 32)) = ji4 := hji4
    have hji4z : a1 ≤ 32 → (IntKind.u32.wrap (a0 * 2 ^ a1.toNat)) = ji4 := shl_small hji4
    obtain ⟨ji5, hji5⟩ : ∃ j_ : Int, (wrap64 (32 - a1)) = j_ := ⟨_, rfl⟩
    replace H : (if 0 ≤ (ji5) then (some (Go.bits .or .u32 (ji4) (shr .u32 a0 (ji5)))) else (none)) = some r := by first | (rw [hji5] at H; exact H) | (simp only [hji5] at H ⊢; exact H)
    have hji5w : (IntKind.i64.wrap (32 - a1)) = ji5 := (i64_w _).trans hji5
    by_cases c6 : 0 ≤ (ji5)
    · rw [if_pos c6] at H
      have c6b0 := eq_true c6
      have c6b1 : decide (0 ≤ (ji5)) = true := decide_eq_true c6
      clear c6
      obtain ⟨ji7, hji7⟩ : ∃ j_ : Int, (shr .u32 a0 (ji5)) = j_ := ⟨_, rfl⟩
      replace H : (some (Go.bits .or .u32 (ji4) (ji7))) = some r := by first | (rw [hji7] at H; exact H) | (simp only [hji7] at H ⊢; exact H)
      have hji7_ : (a0 / 2 ^ min (ji5).toNat 32) = ji7 := hji7
      have hji7z : (ji5) ≤ 32 → (a0 / 2 ^ (ji5).toNat) = ji7 := shr_small hji7
      obtain rfl := Option.some.inj H
      go_enter Try.func34, Try.ntmps34
      go_wp2
      repeat (go_quiet (fail); try go_wp2)
      go_ret
      exact ⟨by first | rfl | (simp; done) | (simp only [← hji4, ← hji5, ← hji7] <;> (first | rfl | simp)) | (simp [*]; done), by repeat (first | exact Drawn0.refl _ | apply Drawn0.step)⟩
    · rw [if_neg c6] at H
      exact absurd H (by simp)
  · rw [if_neg c3] at H
    exact absurd H (by simp)

-- NOT PRINTED: function 35 (spec_mixed)

-- NOT PRINTED: function 22 (spec_block)

-- NOT PRINTED: function 9 (spec_SHA1)

-- NOT PRINTED: function 4 (laws_FnSHA1Pieces)

end Go.Proofs.Ytnmelglnkefjfaa.PFnSHA1Pieces
