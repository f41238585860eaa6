-- PRINTED BY print.sh 35421559b90ae4d0a3588c463048766b98c2df88dd9212a6774a882060cdf62d: not written by this session
import Derived.Test.YtcjdadfiedoflaaPFnRawTellsx0
namespace Go.Proofs.Ytcjdadfiedoflaa.PFnRawTells
open Go.RowKit Go.Proofs.YtcjdadfiedoflaaW.PrintWords Go.Proofs.YtcjdadfiedoflaaW.PrintLast Go.Proofs.YtcjdadfiedoflaaW.PrintMore
attribute [local go_sem] max2_int min2_int max_two min_two max_three min_three max_four min_four   -- for this text's walks alone
set_option linter.unusedVariables false
set_option linter.unusedSimpArgs false

/-! ### laws_plainly: function 35 -/
mutual
def laws_plainly.j0 : Nat → Bool → Bool → Int → ByteArray → ByteArray → List (S43) → Bool → Bool → List ByteArray → Option (Bool)
  | 0, _, _, _, _, _, _, _, _, _ => none
  | k + 1, x1, x43, x116000, x116001, x116002, x116003, x116004, x116005, x116006 => if x43 = true then (some false) else (laws_plainly.l0 k x1 x116003 (x116003.length : Int) 0)
def laws_plainly.l0 : Nat → Bool → List (S43) → Int → Int → Option (Bool)
  | 0, _, _, _, _ => none
  | k + 1, x1, x45, x46, x47 => if x47 < x46 then (if 0 ≤ x47 then (if x47 < (x45.length : Int) then ((laws_plainly.f k ((rd_T43 x45 x47).f0) ((rd_T43 x45 x47).f1) ((rd_T43 x45 x47).f2) ((rd_T43 x45 x47).f3) ((rd_T43 x45 x47).f4) ((rd_T43 x45 x47).f5) ((rd_T43 x45 x47).f6) x1).bind fun t118 => (if t118 = true then (laws_plainly.l0 k x1 x45 x46 (wrap64 (x47 + 1))) else (some false))) else (none)) else (none)) else (some true)
def laws_plainly.f : Nat → Int → ByteArray → ByteArray → List (S43) → Bool → Bool → List ByteArray → Bool → Option (Bool)
  | 0, _, _, _, _, _, _, _, _ => none
  | k + 1, a0_0, a0_1, a0_2, l0_3, a0_4, a0_5, l0_6, a1 => if a0_5 = true then (if a1 = true then (if a0_0 = 95 then (if (a0_1.size : Int) > 0 then (laws_plainly.j0 k a1 true a0_0 a0_1 a0_2 l0_3 a0_4 a0_5 l0_6) else (if a0_0 = 35 then (if a0_1.toList = ([116] : List UInt8) then (laws_plainly.j0 k a1 (a0_0 == 124) a0_0 a0_1 a0_2 l0_3 a0_4 a0_5 l0_6) else (if a0_1.toList = ([102] : List UInt8) then (laws_plainly.j0 k a1 (a0_0 == 124) a0_0 a0_1 a0_2 l0_3 a0_4 a0_5 l0_6) else (laws_plainly.j0 k a1 true a0_0 a0_1 a0_2 l0_3 a0_4 a0_5 l0_6))) else (laws_plainly.j0 k a1 (a0_0 == 124) a0_0 a0_1 a0_2 l0_3 a0_4 a0_5 l0_6))) else (if a0_0 = 35 then (if a0_1.toList = ([116] : List UInt8) then (laws_plainly.j0 k a1 (a0_0 == 124) a0_0 a0_1 a0_2 l0_3 a0_4 a0_5 l0_6) else (if a0_1.toList = ([102] : List UInt8) then (laws_plainly.j0 k a1 (a0_0 == 124) a0_0 a0_1 a0_2 l0_3 a0_4 a0_5 l0_6) else (laws_plainly.j0 k a1 true a0_0 a0_1 a0_2 l0_3 a0_4 a0_5 l0_6))) else (laws_plainly.j0 k a1 (a0_0 == 124) a0_0 a0_1 a0_2 l0_3 a0_4 a0_5 l0_6))) else (laws_plainly.j0 k a1 true a0_0 a0_1 a0_2 l0_3 a0_4 a0_5 l0_6)) else (if a0_0 = 95 then (if (a0_1.size : Int) > 0 then (laws_plainly.j0 k a1 true a0_0 a0_1 a0_2 l0_3 a0_4 a0_5 l0_6) else (if a0_0 = 35 then (if a0_1.toList = ([116] : List UInt8) then (laws_plainly.j0 k a1 (a0_0 == 124) a0_0 a0_1 a0_2 l0_3 a0_4 a0_5 l0_6) else (if a0_1.toList = ([102] : List UInt8) then (laws_plainly.j0 k a1 (a0_0 == 124) a0_0 a0_1 a0_2 l0_3 a0_4 a0_5 l0_6) else (laws_plainly.j0 k a1 true a0_0 a0_1 a0_2 l0_3 a0_4 a0_5 l0_6))) else (laws_plainly.j0 k a1 (a0_0 == 124) a0_0 a0_1 a0_2 l0_3 a0_4 a0_5 l0_6))) else (if a0_0 = 35 then (if a0_1.toList = ([116] : List UInt8) then (laws_plainly.j0 k a1 (a0_0 == 124) a0_0 a0_1 a0_2 l0_3 a0_4 a0_5 l0_6) else (if a0_1.toList = ([102] : List UInt8) then (laws_plainly.j0 k a1 (a0_0 == 124) a0_0 a0_1 a0_2 l0_3 a0_4 a0_5 l0_6) else (laws_plainly.j0 k a1 true a0_0 a0_1 a0_2 l0_3 a0_4 a0_5 l0_6))) else (laws_plainly.j0 k a1 (a0_0 == 124) a0_0 a0_1 a0_2 l0_3 a0_4 a0_5 l0_6)))
end
theorem laws_plainly.mono_l : ∀ k, (∀ y0 y1 y2 y3 y4 y5 y6 y7, LeO (laws_plainly.f k y0 y1 y2 y3 y4 y5 y6 y7) (laws_plainly.f (k + 1) y0 y1 y2 y3 y4 y5 y6 y7)) ∧ (∀ y0 y1 y2 y3 y4 y5 y6 y7 y8, LeO (laws_plainly.j0 k y0 y1 y2 y3 y4 y5 y6 y7 y8) (laws_plainly.j0 (k + 1) y0 y1 y2 y3 y4 y5 y6 y7 y8)) ∧ (∀ y0 y1 y2 y3, LeO (laws_plainly.l0 k y0 y1 y2 y3) (laws_plainly.l0 (k + 1) y0 y1 y2 y3))
  | 0 => ⟨fun _ _ _ _ _ _ _ _ r h => by simp [laws_plainly.f] at h, fun _ _ _ _ _ _ _ _ _ r h => by simp [laws_plainly.j0] at h, fun _ _ _ _ r h => by simp [laws_plainly.l0] at h⟩
  | k + 1 => by
    obtain ⟨ih0, ih1, ih2⟩ := laws_plainly.mono_l k
    refine ⟨?_, ?_, ?_⟩
    · intro y0 y1 y2 y3 y4 y5 y6 y7
      unfold laws_plainly.f
      repeat' first
      | (with_reducible exact ih0 _ _ _ _ _ _ _ _)
      | (with_reducible exact ih1 _ _ _ _ _ _ _ _ _)
      | (with_reducible exact ih2 _ _ _ _)
      | (with_reducible exact LeO.refl _)
      | (with_reducible exact LeO.none _)
      | (with_reducible refine LeO.ite ?_ ?_)
      | (with_reducible refine LeO.bind ?_ (fun _ => ?_))
      | exact ih0 _ _ _ _ _ _ _ _
      | exact ih1 _ _ _ _ _ _ _ _ _
      | exact ih2 _ _ _ _
      | exact LeO.none _
      | refine LeO.ite ?_ ?_
      | refine LeO.bind ?_ (fun _ => ?_)
    · intro y0 y1 y2 y3 y4 y5 y6 y7 y8
      unfold laws_plainly.j0
      repeat' first
      | (with_reducible exact ih0 _ _ _ _ _ _ _ _)
      | (with_reducible exact ih1 _ _ _ _ _ _ _ _ _)
      | (with_reducible exact ih2 _ _ _ _)
      | (with_reducible exact LeO.refl _)
      | (with_reducible exact LeO.none _)
      | (with_reducible refine LeO.ite ?_ ?_)
      | (with_reducible refine LeO.bind ?_ (fun _ => ?_))
      | exact ih0 _ _ _ _ _ _ _ _
      | exact ih1 _ _ _ _ _ _ _ _ _
      | exact ih2 _ _ _ _
      | exact LeO.none _
      | refine LeO.ite ?_ ?_
      | refine LeO.bind ?_ (fun _ => ?_)
    · intro y0 y1 y2 y3
      unfold laws_plainly.l0
      repeat' first
      | (with_reducible exact ih0 _ _ _ _ _ _ _ _)
      | (with_reducible exact ih1 _ _ _ _ _ _ _ _ _)
      | (with_reducible exact ih2 _ _ _ _)
      | (with_reducible exact LeO.refl _)
      | (with_reducible exact LeO.none _)
      | (with_reducible refine LeO.ite ?_ ?_)
      | (with_reducible refine LeO.bind ?_ (fun _ => ?_))
      | exact ih0 _ _ _ _ _ _ _ _
      | exact ih1 _ _ _ _ _ _ _ _ _
      | exact ih2 _ _ _ _
      | exact LeO.none _
      | refine LeO.ite ?_ ?_
      | refine LeO.bind ?_ (fun _ => ?_)
theorem laws_plainly.mono : ∀ a0 a1 a2 a3 a4 a5 a6 a7 k, LeO (laws_plainly.f k a0 a1 a2 a3 a4 a5 a6 a7) (laws_plainly.f (k + 1) a0 a1 a2 a3 a4 a5 a6 a7) := by
  intro a0 a1 a2 a3 a4 a5 a6 a7 k
  obtain ⟨ih0, ih1, ih2⟩ := laws_plainly.mono_l k
  exact ih0 a0 a1 a2 a3 a4 a5 a6 a7
set_option maxHeartbeats 8000000 in
set_option maxRecDepth 100000 in
theorem laws_plainly.calls (k : Nat) : ∀ (a0_0 : Int) (a0_1 : ByteArray) (a0_2 : ByteArray) (A0_3 : Option Addr) (c0_3 : Nat) (l0_3 : List (S43)) (a0_4 : Bool) (a0_5 : Bool) (A0_6 : Option Addr) (c0_6 : Nat) (l0_6 : List ByteArray) (a1 : Bool) (r : Bool) (w : World) (hr0_3 : Kd.C k43 w A0_3 l0_3.length l0_3) (hc0_3 : l0_3.length ≤ c0_3) (hr0_6 : Kd.C Kd.string w A0_6 l0_6.length l0_6) (hc0_6 : l0_6.length ≤ c0_6) (h : laws_plainly.f k a0_0 a0_1 a0_2 l0_3 a0_4 a0_5 l0_6 a1 = some r),
    Calls Try.prog 35 #[.agg #[.int .u8 a0_0, .string a0_1, .string a0_2, .slice A0_3 l0_3.length c0_3, .bool a0_4, .bool a0_5, .slice A0_6 l0_6.length c0_6], .bool a1] w fun e w' => e = .returned (.bool r) ∧ Below w.heap.size w w' := by
  induction k using Nat.strongRecOn with
  | _ k ih =>
  intro a0_0 a0_1 a0_2 A0_3 c0_3 l0_3 a0_4 a0_5 A0_6 c0_6 l0_6 a1 r w hr0_3 hc0_3 hr0_6 hc0_6 h
  cases k with
  | zero => exact absurd h (by simp [laws_plainly.f])
  | succ k =>
  simp only [laws_plainly.f] at h
  have hu43 := Try.underlying43
  have HR0_3 := Aside0.mk hr0_3
  have HC0_3 := Aside0.mk hc0_3
  clear hr0_3 hc0_3
  have HR0_6 := Aside0.mk hr0_6
  have HC0_6 := Aside0.mk hc0_6
  clear hr0_6 hc0_6
  have HB := Aside0.mk (Below.refl w.heap.size w)
  have H : (if a0_5 = true then (if a1 = true then (if a0_0 = 95 then (if (a0_1.size : Int) > 0 then (laws_plainly.j0 k a1 true a0_0 a0_1 a0_2 l0_3 a0_4 a0_5 l0_6) else (if a0_0 = 35 then (if a0_1.toList = ([116] : List UInt8) then (laws_plainly.j0 k a1 (a0_0 == 124) a0_0 a0_1 a0_2 l0_3 a0_4 a0_5 l0_6) else (if a0_1.toList = ([102] : List UInt8) then (laws_plainly.j0 k a1 (a0_0 == 124) a0_0 a0_1 a0_2 l0_3 a0_4 a0_5 l0_6) else (laws_plainly.j0 k a1 true a0_0 a0_1 a0_2 l0_3 a0_4 a0_5 l0_6))) else (laws_plainly.j0 k a1 (a0_0 == 124) a0_0 a0_1 a0_2 l0_3 a0_4 a0_5 l0_6))) else (if a0_0 = 35 then (if a0_1.toList = ([116] : List UInt8) then (laws_plainly.j0 k a1 (a0_0 == 124) a0_0 a0_1 a0_2 l0_3 a0_4 a0_5 l0_6) else (if a0_1.toList = ([102] : List UInt8) then (laws_plainly.j0 k a1 (a0_0 == 124) a0_0 a0_1 a0_2 l0_3 a0_4 a0_5 l0_6) else (laws_plainly.j0 k a1 true a0_0 a0_1 a0_2 l0_3 a0_4 a0_5 l0_6))) else (laws_plainly.j0 k a1 (a0_0 == 124) a0_0 a0_1 a0_2 l0_3 a0_4 a0_5 l0_6))) else (laws_plainly.j0 k a1 true a0_0 a0_1 a0_2 l0_3 a0_4 a0_5 l0_6)) else (if a0_0 = 95 then (if (a0_1.size : Int) > 0 then (laws_plainly.j0 k a1 true a0_0 a0_1 a0_2 l0_3 a0_4 a0_5 l0_6) else (if a0_0 = 35 then (if a0_1.toList = ([116] : List UInt8) then (laws_plainly.j0 k a1 (a0_0 == 124) a0_0 a0_1 a0_2 l0_3 a0_4 a0_5 l0_6) else (if a0_1.toList = ([102] : List UInt8) then (laws_plainly.j0 k a1 (a0_0 == 124) a0_0 a0_1 a0_2 l0_3 a0_4 a0_5 l0_6) else (laws_plainly.j0 k a1 true a0_0 a0_1 a0_2 l0_3 a0_4 a0_5 l0_6))) else (laws_plainly.j0 k a1 (a0_0 == 124) a0_0 a0_1 a0_2 l0_3 a0_4 a0_5 l0_6))) else (if a0_0 = 35 then (if a0_1.toList = ([116] : List UInt8) then (laws_plainly.j0 k a1 (a0_0 == 124) a0_0 a0_1 a0_2 l0_3 a0_4 a0_5 l0_6) else (if a0_1.toList = ([102] : List UInt8) then (laws_plainly.j0 k a1 (a0_0 == 124) a0_0 a0_1 a0_2 l0_3 a0_4 a0_5 l0_6) else (laws_plainly.j0 k a1 true a0_0 a0_1 a0_2 l0_3 a0_4 a0_5 l0_6))) else (laws_plainly.j0 k a1 (a0_0 == 124) a0_0 a0_1 a0_2 l0_3 a0_4 a0_5 l0_6)))) = some r := h
  clear h
  have HC3 := Aside0.mk H
  clear H
  go_enter Try.func35, Try.ntmps35
  go_upto_region 1 with (first | ((with_reducible refine gate_dst (N := 2) rfl ?_); (try (refine gate_guard (by rfl) ?_; dsimp only)); refine box_event ?hg (N := 2) ?hd (cs := #[.int .u8 a0_0, .string a0_1, .string a0_2, .slice A0_3 l0_3.length c0_3, .bool a0_4, .bool a0_5, .slice A0_6 l0_6.length c0_6]) (t := 43) ?hr ?_; (case hd => rfl); (case hg => rfl); (case hr => first | (go_simp; done) | (go_simp; rfl)); intro gb115 hg w4 hbox hb; have n0_ := Aside0.mk (below_step (by repeat (first | (with_reducible first | exact HB.out | apply below_alloc | apply pw_below_drewN | apply below_drew1) | exact HB.out)) hb); have n1_ := Aside0.mk (hbox); have n2_ := Aside0.mk ((by rw [hg]; exact (below_size (by repeat (first | (with_reducible first | exact HB.out | apply below_alloc | apply pw_below_drewN | apply below_drew1) | exact HB.out))) : w.heap.size ≤ gb115)); have n3_ := Aside0.mk ((by rw [hg]; exact (below_size (by repeat (first | (with_reducible first | exact HB.out | apply below_alloc | apply pw_below_drewN | apply below_drew1) | exact HB.out))) : w.heap.size ≤ gb115)); clear HB; have HB := n0_; have BK115 := n1_; have GW115 := n2_; have GE115 := n3_; clear n0_ n1_ n2_ n3_; clear hb hbox hg))
  (try simp only [Act.put, List.setIfInBounds_toArray, List.set_cons_zero, List.set_cons_succ])
  go_cut [43] (fun v43 wc => ∃ (kq : Nat) (x43_2 : Bool), v43 = .bool x43_2 ∧ Aside0 (laws_plainly.j0 kq a1 x43_2 a0_0 a0_1 a0_2 l0_3 a0_4 a0_5 l0_6 = some r) ∧ Aside0 (kq ≤ k) ∧ Aside0 (wc.heap[gb115]? = some (.cells #[.int .u8 a0_0, .string a0_1, .string a0_2, (.slice A0_3 l0_3.length c0_3), .bool a0_4, .bool a0_5, (.slice A0_6 l0_6.length c0_6)] 43 (0, 0))) ∧ Aside0 (Below w.heap.size w wc))
  case first =>
    have H := HC3.out
    clear HC3
    by_cases c5 : a0_5 = true
    · subst c5
      have H1 : (if a1 = true then (if a0_0 = 95 then (if (a0_1.size : Int) > 0 then (laws_plainly.j0 k a1 true a0_0 a0_1 a0_2 l0_3 a0_4 true l0_6) else (if a0_0 = 35 then (if a0_1.toList = ([116] : List UInt8) then (laws_plainly.j0 k a1 (a0_0 == 124) a0_0 a0_1 a0_2 l0_3 a0_4 true l0_6) else (if a0_1.toList = ([102] : List UInt8) then (laws_plainly.j0 k a1 (a0_0 == 124) a0_0 a0_1 a0_2 l0_3 a0_4 true l0_6) else (laws_plainly.j0 k a1 true a0_0 a0_1 a0_2 l0_3 a0_4 true l0_6))) else (laws_plainly.j0 k a1 (a0_0 == 124) a0_0 a0_1 a0_2 l0_3 a0_4 true l0_6))) else (if a0_0 = 35 then (if a0_1.toList = ([116] : List UInt8) then (laws_plainly.j0 k a1 (a0_0 == 124) a0_0 a0_1 a0_2 l0_3 a0_4 true l0_6) else (if a0_1.toList = ([102] : List UInt8) then (laws_plainly.j0 k a1 (a0_0 == 124) a0_0 a0_1 a0_2 l0_3 a0_4 true l0_6) else (laws_plainly.j0 k a1 true a0_0 a0_1 a0_2 l0_3 a0_4 true l0_6))) else (laws_plainly.j0 k a1 (a0_0 == 124) a0_0 a0_1 a0_2 l0_3 a0_4 true l0_6))) else (laws_plainly.j0 k a1 true a0_0 a0_1 a0_2 l0_3 a0_4 true l0_6)) = some r := by rw [if_pos rfl] at H; exact H
      clear H
      have H := H1
      clear H1
      by_cases c6 : a1 = true
      · subst c6
        have H1 : (if a0_0 = 95 then (if (a0_1.size : Int) > 0 then (laws_plainly.j0 k true true a0_0 a0_1 a0_2 l0_3 a0_4 true l0_6) else (if a0_0 = 35 then (if a0_1.toList = ([116] : List UInt8) then (laws_plainly.j0 k true (a0_0 == 124) a0_0 a0_1 a0_2 l0_3 a0_4 true l0_6) else (if a0_1.toList = ([102] : List UInt8) then (laws_plainly.j0 k true (a0_0 == 124) a0_0 a0_1 a0_2 l0_3 a0_4 true l0_6) else (laws_plainly.j0 k true true a0_0 a0_1 a0_2 l0_3 a0_4 true l0_6))) else (laws_plainly.j0 k true (a0_0 == 124) a0_0 a0_1 a0_2 l0_3 a0_4 true l0_6))) else (if a0_0 = 35 then (if a0_1.toList = ([116] : List UInt8) then (laws_plainly.j0 k true (a0_0 == 124) a0_0 a0_1 a0_2 l0_3 a0_4 true l0_6) else (if a0_1.toList = ([102] : List UInt8) then (laws_plainly.j0 k true (a0_0 == 124) a0_0 a0_1 a0_2 l0_3 a0_4 true l0_6) else (laws_plainly.j0 k true true a0_0 a0_1 a0_2 l0_3 a0_4 true l0_6))) else (laws_plainly.j0 k true (a0_0 == 124) a0_0 a0_1 a0_2 l0_3 a0_4 true l0_6))) = some r := by rw [if_pos rfl] at H; exact H
        clear H
        have H := H1
        clear H1
        by_cases c7 : a0_0 = 95
        · rw [if_pos c7] at H
          have c7b0 : (a0_0 == 95) = true := beq_iff_eq.mpr c7
          have c7b1 : (a0_0 != 95) = false := bne_eq_false_iff_eq.mpr c7
          clear c7
          (first | rw [c7b0] | (simp only [i64_w, i32_w]; rw [c7b0]) | skip)
          by_cases c8 : (a0_1.size : Int) > 0
          · rw [if_pos c8] at H
            have c8b0 : decide (0 < (a0_1.size : Int)) = true := decide_eq_true c8
            have c8b1 : decide (0 < a0_1.size) = true := decide_eq_true (by omega)
            clear c8
            have H' := Aside0.mk H
            clear H
            have hcz9_0 : w4.cell? ⟨gb115, 0, none⟩ = some (.int .u8 a0_0) := (blk_cell BK115.out 0).trans rfl
            have hcz9_1 : w4.cell? ⟨gb115, 1, none⟩ = some (.string a0_1) := (blk_cell BK115.out 1).trans rfl
            have hcz9_2 : w4.cell? ⟨gb115, 2, none⟩ = some (.string a0_2) := (blk_cell BK115.out 2).trans rfl
            have hcz9_3 : w4.cell? ⟨gb115, 3, none⟩ = some (.slice A0_3 l0_3.length c0_3) := (blk_cell BK115.out 3).trans rfl
            have hcz9_4 : w4.cell? ⟨gb115, 4, none⟩ = some (.bool a0_4) := (blk_cell BK115.out 4).trans rfl
            have hcz9_5 : w4.cell? ⟨gb115, 5, none⟩ = some (.bool true) := (blk_cell BK115.out 5).trans rfl
            have hcz9_6 : w4.cell? ⟨gb115, 6, none⟩ = some (.slice A0_6 l0_6.length c0_6) := (blk_cell BK115.out 6).trans rfl
            have hfz9_0 := blk_frozen BK115.out 0
            have hfz9_1 := blk_frozen BK115.out 1
            have hfz9_2 := blk_frozen BK115.out 2
            have hfz9_3 := blk_frozen BK115.out 3
            have hfz9_4 := blk_frozen BK115.out 4
            have hfz9_5 := blk_frozen BK115.out 5
            have hfz9_6 := blk_frozen BK115.out 6
            go_wp2
            go_meet
            case rel => exact ⟨_, (true), (by first | rfl | (simp; done) | (simp [*]; done)), H', ⟨by first | omega | exact Nat.le_refl _⟩, ⟨by (with_reducible repeat (first | refine blk_drewN ?_ _ | refine blk_drew ?_ | refine blk_alloc ?_ _)); exact BK115.out⟩, ⟨by repeat (first | (with_reducible first | exact HB.out | apply below_alloc | apply pw_below_drewN | apply below_drew1 | refine below_set ?_ GE115.out) | exact HB.out)⟩⟩
          · rw [if_neg c8] at H
            have c8b0 : decide (0 < (a0_1.size : Int)) = false := decide_eq_false c8
            have c8b1 : decide (0 < a0_1.size) = false := decide_eq_false (by omega)
            clear c8
            by_cases c10 : a0_0 = 35
            · rw [if_pos c10] at H
              have c10b0 : (a0_0 == 35) = true := beq_iff_eq.mpr c10
              have c10b1 : (a0_0 != 35) = false := bne_eq_false_iff_eq.mpr c10
              clear c10
              by_cases c11 : a0_1.toList = ([116] : List UInt8)
              · rw [if_pos c11] at H
                have c11b0 : (a0_1.toList == ([116] : List UInt8)) = true := beq_iff_eq.mpr c11
                have c11b1 : (a0_1.toList != ([116] : List UInt8)) = false := bne_eq_false_iff_eq.mpr c11
                clear c11
                have H' := Aside0.mk H
                clear H
                have hcz12_0 : w4.cell? ⟨gb115, 0, none⟩ = some (.int .u8 a0_0) := (blk_cell BK115.out 0).trans rfl
                have hcz12_1 : w4.cell? ⟨gb115, 1, none⟩ = some (.string a0_1) := (blk_cell BK115.out 1).trans rfl
                have hcz12_2 : w4.cell? ⟨gb115, 2, none⟩ = some (.string a0_2) := (blk_cell BK115.out 2).trans rfl
                have hcz12_3 : w4.cell? ⟨gb115, 3, none⟩ = some (.slice A0_3 l0_3.length c0_3) := (blk_cell BK115.out 3).trans rfl
                have hcz12_4 : w4.cell? ⟨gb115, 4, none⟩ = some (.bool a0_4) := (blk_cell BK115.out 4).trans rfl
                have hcz12_5 : w4.cell? ⟨gb115, 5, none⟩ = some (.bool true) := (blk_cell BK115.out 5).trans rfl
                have hcz12_6 : w4.cell? ⟨gb115, 6, none⟩ = some (.slice A0_6 l0_6.length c0_6) := (blk_cell BK115.out 6).trans rfl
                have hfz12_0 := blk_frozen BK115.out 0
                have hfz12_1 := blk_frozen BK115.out 1
                have hfz12_2 := blk_frozen BK115.out 2
                have hfz12_3 := blk_frozen BK115.out 3
                have hfz12_4 := blk_frozen BK115.out 4
                have hfz12_5 := blk_frozen BK115.out 5
                have hfz12_6 := blk_frozen BK115.out 6
                go_wp2
                go_meet
                case rel => exact ⟨_, ((a0_0 == 124)), (by first | rfl | (simp; done) | (simp [*]; done)), H', ⟨by first | omega | exact Nat.le_refl _⟩, ⟨by (with_reducible repeat (first | refine blk_drewN ?_ _ | refine blk_drew ?_ | refine blk_alloc ?_ _)); exact BK115.out⟩, ⟨by repeat (first | (with_reducible first | exact HB.out | apply below_alloc | apply pw_below_drewN | apply below_drew1 | refine below_set ?_ GE115.out) | exact HB.out)⟩⟩
              · rw [if_neg c11] at H
                have c11b0 : (a0_1.toList == ([116] : List UInt8)) = false := beq_eq_false_iff_ne.mpr c11
                have c11b1 : (a0_1.toList != ([116] : List UInt8)) = true := bne_iff_ne.mpr c11
                by_cases c13 : a0_1.toList = ([102] : List UInt8)
                · rw [if_pos c13] at H
                  have c13b0 : (a0_1.toList == ([102] : List UInt8)) = true := beq_iff_eq.mpr c13
                  have c13b1 : (a0_1.toList != ([102] : List UInt8)) = false := bne_eq_false_iff_eq.mpr c13
                  clear c13
                  have H' := Aside0.mk H
                  clear H
                  have hcz14_0 : w4.cell? ⟨gb115, 0, none⟩ = some (.int .u8 a0_0) := (blk_cell BK115.out 0).trans rfl
                  have hcz14_1 : w4.cell? ⟨gb115, 1, none⟩ = some (.string a0_1) := (blk_cell BK115.out 1).trans rfl
                  have hcz14_2 : w4.cell? ⟨gb115, 2, none⟩ = some (.string a0_2) := (blk_cell BK115.out 2).trans rfl
                  have hcz14_3 : w4.cell? ⟨gb115, 3, none⟩ = some (.slice A0_3 l0_3.length c0_3) := (blk_cell BK115.out 3).trans rfl
                  have hcz14_4 : w4.cell? ⟨gb115, 4, none⟩ = some (.bool a0_4) := (blk_cell BK115.out 4).trans rfl
                  have hcz14_5 : w4.cell? ⟨gb115, 5, none⟩ = some (.bool true) := (blk_cell BK115.out 5).trans rfl
                  have hcz14_6 : w4.cell? ⟨gb115, 6, none⟩ = some (.slice A0_6 l0_6.length c0_6) := (blk_cell BK115.out 6).trans rfl
                  have hfz14_0 := blk_frozen BK115.out 0
                  have hfz14_1 := blk_frozen BK115.out 1
                  have hfz14_2 := blk_frozen BK115.out 2
                  have hfz14_3 := blk_frozen BK115.out 3
                  have hfz14_4 := blk_frozen BK115.out 4
                  have hfz14_5 := blk_frozen BK115.out 5
                  have hfz14_6 := blk_frozen BK115.out 6
                  go_wp2
                  go_meet
                  case rel => exact ⟨_, ((a0_0 == 124)), (by first | rfl | (simp; done) | (simp [*]; done)), H', ⟨by first | omega | exact Nat.le_refl _⟩, ⟨by (with_reducible repeat (first | refine blk_drewN ?_ _ | refine blk_drew ?_ | refine blk_alloc ?_ _)); exact BK115.out⟩, ⟨by repeat (first | (with_reducible first | exact HB.out | apply below_alloc | apply pw_below_drewN | apply below_drew1 | refine below_set ?_ GE115.out) | exact HB.out)⟩⟩
                · rw [if_neg c13] at H
                  have c13b0 : (a0_1.toList == ([102] : List UInt8)) = false := beq_eq_false_iff_ne.mpr c13
                  have c13b1 : (a0_1.toList != ([102] : List UInt8)) = true := bne_iff_ne.mpr c13
                  have H' := Aside0.mk H
                  clear H
                  have hcz15_0 : w4.cell? ⟨gb115, 0, none⟩ = some (.int .u8 a0_0) := (blk_cell BK115.out 0).trans rfl
                  have hcz15_1 : w4.cell? ⟨gb115, 1, none⟩ = some (.string a0_1) := (blk_cell BK115.out 1).trans rfl
                  have hcz15_2 : w4.cell? ⟨gb115, 2, none⟩ = some (.string a0_2) := (blk_cell BK115.out 2).trans rfl
                  have hcz15_3 : w4.cell? ⟨gb115, 3, none⟩ = some (.slice A0_3 l0_3.length c0_3) := (blk_cell BK115.out 3).trans rfl
                  have hcz15_4 : w4.cell? ⟨gb115, 4, none⟩ = some (.bool a0_4) := (blk_cell BK115.out 4).trans rfl
                  have hcz15_5 : w4.cell? ⟨gb115, 5, none⟩ = some (.bool true) := (blk_cell BK115.out 5).trans rfl
                  have hcz15_6 : w4.cell? ⟨gb115, 6, none⟩ = some (.slice A0_6 l0_6.length c0_6) := (blk_cell BK115.out 6).trans rfl
                  have hfz15_0 := blk_frozen BK115.out 0
                  have hfz15_1 := blk_frozen BK115.out 1
                  have hfz15_2 := blk_frozen BK115.out 2
                  have hfz15_3 := blk_frozen BK115.out 3
                  have hfz15_4 := blk_frozen BK115.out 4
                  have hfz15_5 := blk_frozen BK115.out 5
                  have hfz15_6 := blk_frozen BK115.out 6
                  go_wp2
                  go_meet
                  case rel => exact ⟨_, (true), (by first | rfl | (simp; done) | (simp [*]; done)), H', ⟨by first | omega | exact Nat.le_refl _⟩, ⟨by (with_reducible repeat (first | refine blk_drewN ?_ _ | refine blk_drew ?_ | refine blk_alloc ?_ _)); exact BK115.out⟩, ⟨by repeat (first | (with_reducible first | exact HB.out | apply below_alloc | apply pw_below_drewN | apply below_drew1 | refine below_set ?_ GE115.out) | exact HB.out)⟩⟩
            · rw [if_neg c10] at H
              have c10b0 : (a0_0 == 35) = false := beq_eq_false_iff_ne.mpr c10
              have c10b1 : (a0_0 != 35) = true := bne_iff_ne.mpr c10
              have H' := Aside0.mk H
              clear H
              have hcz16_0 : w4.cell? ⟨gb115, 0, none⟩ = some (.int .u8 a0_0) := (blk_cell BK115.out 0).trans rfl
              have hcz16_1 : w4.cell? ⟨gb115, 1, none⟩ = some (.string a0_1) := (blk_cell BK115.out 1).trans rfl
              have hcz16_2 : w4.cell? ⟨gb115, 2, none⟩ = some (.string a0_2) := (blk_cell BK115.out 2).trans rfl
              have hcz16_3 : w4.cell? ⟨gb115, 3, none⟩ = some (.slice A0_3 l0_3.length c0_3) := (blk_cell BK115.out 3).trans rfl
              have hcz16_4 : w4.cell? ⟨gb115, 4, none⟩ = some (.bool a0_4) := (blk_cell BK115.out 4).trans rfl
              have hcz16_5 : w4.cell? ⟨gb115, 5, none⟩ = some (.bool true) := (blk_cell BK115.out 5).trans rfl
              have hcz16_6 : w4.cell? ⟨gb115, 6, none⟩ = some (.slice A0_6 l0_6.length c0_6) := (blk_cell BK115.out 6).trans rfl
              have hfz16_0 := blk_frozen BK115.out 0
              have hfz16_1 := blk_frozen BK115.out 1
              have hfz16_2 := blk_frozen BK115.out 2
              have hfz16_3 := blk_frozen BK115.out 3
              have hfz16_4 := blk_frozen BK115.out 4
              have hfz16_5 := blk_frozen BK115.out 5
              have hfz16_6 := blk_frozen BK115.out 6
              go_wp2
              go_meet
              case rel => exact ⟨_, ((a0_0 == 124)), (by first | rfl | (simp; done) | (simp [*]; done)), H', ⟨by first | omega | exact Nat.le_refl _⟩, ⟨by (with_reducible repeat (first | refine blk_drewN ?_ _ | refine blk_drew ?_ | refine blk_alloc ?_ _)); exact BK115.out⟩, ⟨by repeat (first | (with_reducible first | exact HB.out | apply below_alloc | apply pw_below_drewN | apply below_drew1 | refine below_set ?_ GE115.out) | exact HB.out)⟩⟩
        · rw [if_neg c7] at H
          have c7b0 : (a0_0 == 95) = false := beq_eq_false_iff_ne.mpr c7
          have c7b1 : (a0_0 != 95) = true := bne_iff_ne.mpr c7
          (first | rw [c7b0] | (simp only [i64_w, i32_w]; rw [c7b0]) | skip)
          by_cases c17 : a0_0 = 35
          · rw [if_pos c17] at H
            have c17b0 : (a0_0 == 35) = true := beq_iff_eq.mpr c17
            have c17b1 : (a0_0 != 35) = false := bne_eq_false_iff_eq.mpr c17
            clear c17
            by_cases c18 : a0_1.toList = ([116] : List UInt8)
            · rw [if_pos c18] at H
              have c18b0 : (a0_1.toList == ([116] : List UInt8)) = true := beq_iff_eq.mpr c18
              have c18b1 : (a0_1.toList != ([116] : List UInt8)) = false := bne_eq_false_iff_eq.mpr c18
              clear c18
              have H' := Aside0.mk H
              clear H
              have hcz19_0 : w4.cell? ⟨gb115, 0, none⟩ = some (.int .u8 a0_0) := (blk_cell BK115.out 0).trans rfl
              have hcz19_1 : w4.cell? ⟨gb115, 1, none⟩ = some (.string a0_1) := (blk_cell BK115.out 1).trans rfl
              have hcz19_2 : w4.cell? ⟨gb115, 2, none⟩ = some (.string a0_2) := (blk_cell BK115.out 2).trans rfl
              have hcz19_3 : w4.cell? ⟨gb115, 3, none⟩ = some (.slice A0_3 l0_3.length c0_3) := (blk_cell BK115.out 3).trans rfl
              have hcz19_4 : w4.cell? ⟨gb115, 4, none⟩ = some (.bool a0_4) := (blk_cell BK115.out 4).trans rfl
              have hcz19_5 : w4.cell? ⟨gb115, 5, none⟩ = some (.bool true) := (blk_cell BK115.out 5).trans rfl
              have hcz19_6 : w4.cell? ⟨gb115, 6, none⟩ = some (.slice A0_6 l0_6.length c0_6) := (blk_cell BK115.out 6).trans rfl
              have hfz19_0 := blk_frozen BK115.out 0
              have hfz19_1 := blk_frozen BK115.out 1
              have hfz19_2 := blk_frozen BK115.out 2
              have hfz19_3 := blk_frozen BK115.out 3
              have hfz19_4 := blk_frozen BK115.out 4
              have hfz19_5 := blk_frozen BK115.out 5
              have hfz19_6 := blk_frozen BK115.out 6
              go_wp2
              go_meet
              case rel => exact ⟨_, ((a0_0 == 124)), (by first | rfl | (simp; done) | (simp [*]; done)), H', ⟨by first | omega | exact Nat.le_refl _⟩, ⟨by (with_reducible repeat (first | refine blk_drewN ?_ _ | refine blk_drew ?_ | refine blk_alloc ?_ _)); exact BK115.out⟩, ⟨by repeat (first | (with_reducible first | exact HB.out | apply below_alloc | apply pw_below_drewN | apply below_drew1 | refine below_set ?_ GE115.out) | exact HB.out)⟩⟩
            · rw [if_neg c18] at H
              have c18b0 : (a0_1.toList == ([116] : List UInt8)) = false := beq_eq_false_iff_ne.mpr c18
              have c18b1 : (a0_1.toList != ([116] : List UInt8)) = true := bne_iff_ne.mpr c18
              by_cases c20 : a0_1.toList = ([102] : List UInt8)
              · rw [if_pos c20] at H
                have c20b0 : (a0_1.toList == ([102] : List UInt8)) = true := beq_iff_eq.mpr c20
                have c20b1 : (a0_1.toList != ([102] : List UInt8)) = false := bne_eq_false_iff_eq.mpr c20
                clear c20
                have H' := Aside0.mk H
                clear H
                have hcz21_0 : w4.cell? ⟨gb115, 0, none⟩ = some (.int .u8 a0_0) := (blk_cell BK115.out 0).trans rfl
                have hcz21_1 : w4.cell? ⟨gb115, 1, none⟩ = some (.string a0_1) := (blk_cell BK115.out 1).trans rfl
                have hcz21_2 : w4.cell? ⟨gb115, 2, none⟩ = some (.string a0_2) := (blk_cell BK115.out 2).trans rfl
                have hcz21_3 : w4.cell? ⟨gb115, 3, none⟩ = some (.slice A0_3 l0_3.length c0_3) := (blk_cell BK115.out 3).trans rfl
                have hcz21_4 : w4.cell? ⟨gb115, 4, none⟩ = some (.bool a0_4) := (blk_cell BK115.out 4).trans rfl
                have hcz21_5 : w4.cell? ⟨gb115, 5, none⟩ = some (.bool true) := (blk_cell BK115.out 5).trans rfl
                have hcz21_6 : w4.cell? ⟨gb115, 6, none⟩ = some (.slice A0_6 l0_6.length c0_6) := (blk_cell BK115.out 6).trans rfl
                have hfz21_0 := blk_frozen BK115.out 0
                have hfz21_1 := blk_frozen BK115.out 1
                have hfz21_2 := blk_frozen BK115.out 2
                have hfz21_3 := blk_frozen BK115.out 3
                have hfz21_4 := blk_frozen BK115.out 4
                have hfz21_5 := blk_frozen BK115.out 5
                have hfz21_6 := blk_frozen BK115.out 6
                go_wp2
                go_meet
                case rel => exact ⟨_, ((a0_0 == 124)), (by first | rfl | (simp; done) | (simp [*]; done)), H', ⟨by first | omega | exact Nat.le_refl _⟩, ⟨by (with_reducible repeat (first | refine blk_drewN ?_ _ | refine blk_drew ?_ | refine blk_alloc ?_ _)); exact BK115.out⟩, ⟨by repeat (first | (with_reducible first | exact HB.out | apply below_alloc | apply pw_below_drewN | apply below_drew1 | refine below_set ?_ GE115.out) | exact HB.out)⟩⟩
              · rw [if_neg c20] at H
                have c20b0 : (a0_1.toList == ([102] : List UInt8)) = false := beq_eq_false_iff_ne.mpr c20
                have c20b1 : (a0_1.toList != ([102] : List UInt8)) = true := bne_iff_ne.mpr c20
                have H' := Aside0.mk H
                clear H
                have hcz22_0 : w4.cell? ⟨gb115, 0, none⟩ = some (.int .u8 a0_0) := (blk_cell BK115.out 0).trans rfl
                have hcz22_1 : w4.cell? ⟨gb115, 1, none⟩ = some (.string a0_1) := (blk_cell BK115.out 1).trans rfl
                have hcz22_2 : w4.cell? ⟨gb115, 2, none⟩ = some (.string a0_2) := (blk_cell BK115.out 2).trans rfl
                have hcz22_3 : w4.cell? ⟨gb115, 3, none⟩ = some (.slice A0_3 l0_3.length c0_3) := (blk_cell BK115.out 3).trans rfl
                have hcz22_4 : w4.cell? ⟨gb115, 4, none⟩ = some (.bool a0_4) := (blk_cell BK115.out 4).trans rfl
                have hcz22_5 : w4.cell? ⟨gb115, 5, none⟩ = some (.bool true) := (blk_cell BK115.out 5).trans rfl
                have hcz22_6 : w4.cell? ⟨gb115, 6, none⟩ = some (.slice A0_6 l0_6.length c0_6) := (blk_cell BK115.out 6).trans rfl
                have hfz22_0 := blk_frozen BK115.out 0
                have hfz22_1 := blk_frozen BK115.out 1
                have hfz22_2 := blk_frozen BK115.out 2
                have hfz22_3 := blk_frozen BK115.out 3
                have hfz22_4 := blk_frozen BK115.out 4
                have hfz22_5 := blk_frozen BK115.out 5
                have hfz22_6 := blk_frozen BK115.out 6
                go_wp2
                go_meet
                case rel => exact ⟨_, (true), (by first | rfl | (simp; done) | (simp [*]; done)), H', ⟨by first | omega | exact Nat.le_refl _⟩, ⟨by (with_reducible repeat (first | refine blk_drewN ?_ _ | refine blk_drew ?_ | refine blk_alloc ?_ _)); exact BK115.out⟩, ⟨by repeat (first | (with_reducible first | exact HB.out | apply below_alloc | apply pw_below_drewN | apply below_drew1 | refine below_set ?_ GE115.out) | exact HB.out)⟩⟩
          · rw [if_neg c17] at H
            have c17b0 : (a0_0 == 35) = false := beq_eq_false_iff_ne.mpr c17
            have c17b1 : (a0_0 != 35) = true := bne_iff_ne.mpr c17
            have H' := Aside0.mk H
            clear H
            have hcz23_0 : w4.cell? ⟨gb115, 0, none⟩ = some (.int .u8 a0_0) := (blk_cell BK115.out 0).trans rfl
            have hcz23_1 : w4.cell? ⟨gb115, 1, none⟩ = some (.string a0_1) := (blk_cell BK115.out 1).trans rfl
            have hcz23_2 : w4.cell? ⟨gb115, 2, none⟩ = some (.string a0_2) := (blk_cell BK115.out 2).trans rfl
            have hcz23_3 : w4.cell? ⟨gb115, 3, none⟩ = some (.slice A0_3 l0_3.length c0_3) := (blk_cell BK115.out 3).trans rfl
            have hcz23_4 : w4.cell? ⟨gb115, 4, none⟩ = some (.bool a0_4) := (blk_cell BK115.out 4).trans rfl
            have hcz23_5 : w4.cell? ⟨gb115, 5, none⟩ = some (.bool true) := (blk_cell BK115.out 5).trans rfl
            have hcz23_6 : w4.cell? ⟨gb115, 6, none⟩ = some (.slice A0_6 l0_6.length c0_6) := (blk_cell BK115.out 6).trans rfl
            have hfz23_0 := blk_frozen BK115.out 0
            have hfz23_1 := blk_frozen BK115.out 1
            have hfz23_2 := blk_frozen BK115.out 2
            have hfz23_3 := blk_frozen BK115.out 3
            have hfz23_4 := blk_frozen BK115.out 4
            have hfz23_5 := blk_frozen BK115.out 5
            have hfz23_6 := blk_frozen BK115.out 6
            go_wp2
            go_meet
            case rel => exact ⟨_, ((a0_0 == 124)), (by first | rfl | (simp; done) | (simp [*]; done)), H', ⟨by first | omega | exact Nat.le_refl _⟩, ⟨by (with_reducible repeat (first | refine blk_drewN ?_ _ | refine blk_drew ?_ | refine blk_alloc ?_ _)); exact BK115.out⟩, ⟨by repeat (first | (with_reducible first | exact HB.out | apply below_alloc | apply pw_below_drewN | apply below_drew1 | refine below_set ?_ GE115.out) | exact HB.out)⟩⟩
      · replace c6 := Bool.eq_false_iff.mpr c6
        subst c6
        have H1 : (laws_plainly.j0 k false true a0_0 a0_1 a0_2 l0_3 a0_4 true l0_6) = some r := by rw [if_neg (show ¬ (false = true) by decide)] at H; exact H
        clear H
        have H := H1
        clear H1
        have H' := Aside0.mk H
        clear H
        have hcz24_0 : w4.cell? ⟨gb115, 0, none⟩ = some (.int .u8 a0_0) := (blk_cell BK115.out 0).trans rfl
        have hcz24_1 : w4.cell? ⟨gb115, 1, none⟩ = some (.string a0_1) := (blk_cell BK115.out 1).trans rfl
        have hcz24_2 : w4.cell? ⟨gb115, 2, none⟩ = some (.string a0_2) := (blk_cell BK115.out 2).trans rfl
        have hcz24_3 : w4.cell? ⟨gb115, 3, none⟩ = some (.slice A0_3 l0_3.length c0_3) := (blk_cell BK115.out 3).trans rfl
        have hcz24_4 : w4.cell? ⟨gb115, 4, none⟩ = some (.bool a0_4) := (blk_cell BK115.out 4).trans rfl
        have hcz24_5 : w4.cell? ⟨gb115, 5, none⟩ = some (.bool true) := (blk_cell BK115.out 5).trans rfl
        have hcz24_6 : w4.cell? ⟨gb115, 6, none⟩ = some (.slice A0_6 l0_6.length c0_6) := (blk_cell BK115.out 6).trans rfl
        have hfz24_0 := blk_frozen BK115.out 0
        have hfz24_1 := blk_frozen BK115.out 1
        have hfz24_2 := blk_frozen BK115.out 2
        have hfz24_3 := blk_frozen BK115.out 3
        have hfz24_4 := blk_frozen BK115.out 4
        have hfz24_5 := blk_frozen BK115.out 5
        have hfz24_6 := blk_frozen BK115.out 6
        go_wp2
        go_meet
        case rel => exact ⟨_, (true), (by first | rfl | (simp; done) | (simp [*]; done)), H', ⟨by first | omega | exact Nat.le_refl _⟩, ⟨by (with_reducible repeat (first | refine blk_drewN ?_ _ | refine blk_drew ?_ | refine blk_alloc ?_ _)); exact BK115.out⟩, ⟨by repeat (first | (with_reducible first | exact HB.out | apply below_alloc | apply pw_below_drewN | apply below_drew1 | refine below_set ?_ GE115.out) | exact HB.out)⟩⟩
    · replace c5 := Bool.eq_false_iff.mpr c5
      subst c5
      have H1 : (if a0_0 = 95 then (if (a0_1.size : Int) > 0 then (laws_plainly.j0 k a1 true a0_0 a0_1 a0_2 l0_3 a0_4 false l0_6) else (if a0_0 = 35 then (if a0_1.toList = ([116] : List UInt8) then (laws_plainly.j0 k a1 (a0_0 == 124) a0_0 a0_1 a0_2 l0_3 a0_4 false l0_6) else (if a0_1.toList = ([102] : List UInt8) then (laws_plainly.j0 k a1 (a0_0 == 124) a0_0 a0_1 a0_2 l0_3 a0_4 false l0_6) else (laws_plainly.j0 k a1 true a0_0 a0_1 a0_2 l0_3 a0_4 false l0_6))) else (laws_plainly.j0 k a1 (a0_0 == 124) a0_0 a0_1 a0_2 l0_3 a0_4 false l0_6))) else (if a0_0 = 35 then (if a0_1.toList = ([116] : List UInt8) then (laws_plainly.j0 k a1 (a0_0 == 124) a0_0 a0_1 a0_2 l0_3 a0_4 false l0_6) else (if a0_1.toList = ([102] : List UInt8) then (laws_plainly.j0 k a1 (a0_0 == 124) a0_0 a0_1 a0_2 l0_3 a0_4 false l0_6) else (laws_plainly.j0 k a1 true a0_0 a0_1 a0_2 l0_3 a0_4 false l0_6))) else (laws_plainly.j0 k a1 (a0_0 == 124) a0_0 a0_1 a0_2 l0_3 a0_4 false l0_6))) = some r := by rw [if_neg (show ¬ (false = true) by decide)] at H; exact H
      clear H
      have H := H1
      clear H1
      by_cases c25 : a0_0 = 95
      · rw [if_pos c25] at H
        have c25b0 : (a0_0 == 95) = true := beq_iff_eq.mpr c25
        have c25b1 : (a0_0 != 95) = false := bne_eq_false_iff_eq.mpr c25
        clear c25
        by_cases c26 : (a0_1.size : Int) > 0
        · rw [if_pos c26] at H
          have c26b0 : decide (0 < (a0_1.size : Int)) = true := decide_eq_true c26
          have c26b1 : decide (0 < a0_1.size) = true := decide_eq_true (by omega)
          clear c26
          have H' := Aside0.mk H
          clear H
          have hcz27_0 : w4.cell? ⟨gb115, 0, none⟩ = some (.int .u8 a0_0) := (blk_cell BK115.out 0).trans rfl
          have hcz27_1 : w4.cell? ⟨gb115, 1, none⟩ = some (.string a0_1) := (blk_cell BK115.out 1).trans rfl
          have hcz27_2 : w4.cell? ⟨gb115, 2, none⟩ = some (.string a0_2) := (blk_cell BK115.out 2).trans rfl
          have hcz27_3 : w4.cell? ⟨gb115, 3, none⟩ = some (.slice A0_3 l0_3.length c0_3) := (blk_cell BK115.out 3).trans rfl
          have hcz27_4 : w4.cell? ⟨gb115, 4, none⟩ = some (.bool a0_4) := (blk_cell BK115.out 4).trans rfl
          have hcz27_5 : w4.cell? ⟨gb115, 5, none⟩ = some (.bool false) := (blk_cell BK115.out 5).trans rfl
          have hcz27_6 : w4.cell? ⟨gb115, 6, none⟩ = some (.slice A0_6 l0_6.length c0_6) := (blk_cell BK115.out 6).trans rfl
          have hfz27_0 := blk_frozen BK115.out 0
          have hfz27_1 := blk_frozen BK115.out 1
          have hfz27_2 := blk_frozen BK115.out 2
          have hfz27_3 := blk_frozen BK115.out 3
          have hfz27_4 := blk_frozen BK115.out 4
          have hfz27_5 := blk_frozen BK115.out 5
          have hfz27_6 := blk_frozen BK115.out 6
          go_wp2
          go_meet
          case rel => exact ⟨_, (true), (by first | rfl | (simp; done) | (simp [*]; done)), H', ⟨by first | omega | exact Nat.le_refl _⟩, ⟨by (with_reducible repeat (first | refine blk_drewN ?_ _ | refine blk_drew ?_ | refine blk_alloc ?_ _)); exact BK115.out⟩, ⟨by repeat (first | (with_reducible first | exact HB.out | apply below_alloc | apply pw_below_drewN | apply below_drew1 | refine below_set ?_ GE115.out) | exact HB.out)⟩⟩
        · rw [if_neg c26] at H
          have c26b0 : decide (0 < (a0_1.size : Int)) = false := decide_eq_false c26
          have c26b1 : decide (0 < a0_1.size) = false := decide_eq_false (by omega)
          clear c26
          by_cases c28 : a0_0 = 35
          · rw [if_pos c28] at H
            have c28b0 : (a0_0 == 35) = true := beq_iff_eq.mpr c28
            have c28b1 : (a0_0 != 35) = false := bne_eq_false_iff_eq.mpr c28
            clear c28
            by_cases c29 : a0_1.toList = ([116] : List UInt8)
            · rw [if_pos c29] at H
              have c29b0 : (a0_1.toList == ([116] : List UInt8)) = true := beq_iff_eq.mpr c29
              have c29b1 : (a0_1.toList != ([116] : List UInt8)) = false := bne_eq_false_iff_eq.mpr c29
              clear c29
              have H' := Aside0.mk H
              clear H
              have hcz30_0 : w4.cell? ⟨gb115, 0, none⟩ = some (.int .u8 a0_0) := (blk_cell BK115.out 0).trans rfl
              have hcz30_1 : w4.cell? ⟨gb115, 1, none⟩ = some (.string a0_1) := (blk_cell BK115.out 1).trans rfl
              have hcz30_2 : w4.cell? ⟨gb115, 2, none⟩ = some (.string a0_2) := (blk_cell BK115.out 2).trans rfl
              have hcz30_3 : w4.cell? ⟨gb115, 3, none⟩ = some (.slice A0_3 l0_3.length c0_3) := (blk_cell BK115.out 3).trans rfl
              have hcz30_4 : w4.cell? ⟨gb115, 4, none⟩ = some (.bool a0_4) := (blk_cell BK115.out 4).trans rfl
              have hcz30_5 : w4.cell? ⟨gb115, 5, none⟩ = some (.bool false) := (blk_cell BK115.out 5).trans rfl
              have hcz30_6 : w4.cell? ⟨gb115, 6, none⟩ = some (.slice A0_6 l0_6.length c0_6) := (blk_cell BK115.out 6).trans rfl
              have hfz30_0 := blk_frozen BK115.out 0
              have hfz30_1 := blk_frozen BK115.out 1
              have hfz30_2 := blk_frozen BK115.out 2
              have hfz30_3 := blk_frozen BK115.out 3
              have hfz30_4 := blk_frozen BK115.out 4
              have hfz30_5 := blk_frozen BK115.out 5
              have hfz30_6 := blk_frozen BK115.out 6
              go_wp2
              go_meet
              case rel => exact ⟨_, ((a0_0 == 124)), (by first | rfl | (simp; done) | (simp [*]; done)), H', ⟨by first | omega | exact Nat.le_refl _⟩, ⟨by (with_reducible repeat (first | refine blk_drewN ?_ _ | refine blk_drew ?_ | refine blk_alloc ?_ _)); exact BK115.out⟩, ⟨by repeat (first | (with_reducible first | exact HB.out | apply below_alloc | apply pw_below_drewN | apply below_drew1 | refine below_set ?_ GE115.out) | exact HB.out)⟩⟩
            · rw [if_neg c29] at H
              have c29b0 : (a0_1.toList == ([116] : List UInt8)) = false := beq_eq_false_iff_ne.mpr c29
              have c29b1 : (a0_1.toList != ([116] : List UInt8)) = true := bne_iff_ne.mpr c29
              by_cases c31 : a0_1.toList = ([102] : List UInt8)
              · rw [if_pos c31] at H
                have c31b0 : (a0_1.toList == ([102] : List UInt8)) = true := beq_iff_eq.mpr c31
                have c31b1 : (a0_1.toList != ([102] : List UInt8)) = false := bne_eq_false_iff_eq.mpr c31
                clear c31
                have H' := Aside0.mk H
                clear H
                have hcz32_0 : w4.cell? ⟨gb115, 0, none⟩ = some (.int .u8 a0_0) := (blk_cell BK115.out 0).trans rfl
                have hcz32_1 : w4.cell? ⟨gb115, 1, none⟩ = some (.string a0_1) := (blk_cell BK115.out 1).trans rfl
                have hcz32_2 : w4.cell? ⟨gb115, 2, none⟩ = some (.string a0_2) := (blk_cell BK115.out 2).trans rfl
                have hcz32_3 : w4.cell? ⟨gb115, 3, none⟩ = some (.slice A0_3 l0_3.length c0_3) := (blk_cell BK115.out 3).trans rfl
                have hcz32_4 : w4.cell? ⟨gb115, 4, none⟩ = some (.bool a0_4) := (blk_cell BK115.out 4).trans rfl
                have hcz32_5 : w4.cell? ⟨gb115, 5, none⟩ = some (.bool false) := (blk_cell BK115.out 5).trans rfl
                have hcz32_6 : w4.cell? ⟨gb115, 6, none⟩ = some (.slice A0_6 l0_6.length c0_6) := (blk_cell BK115.out 6).trans rfl
                have hfz32_0 := blk_frozen BK115.out 0
                have hfz32_1 := blk_frozen BK115.out 1
                have hfz32_2 := blk_frozen BK115.out 2
                have hfz32_3 := blk_frozen BK115.out 3
                have hfz32_4 := blk_frozen BK115.out 4
                have hfz32_5 := blk_frozen BK115.out 5
                have hfz32_6 := blk_frozen BK115.out 6
                go_wp2
                go_meet
                case rel => exact ⟨_, ((a0_0 == 124)), (by first | rfl | (simp; done) | (simp [*]; done)), H', ⟨by first | omega | exact Nat.le_refl _⟩, ⟨by (with_reducible repeat (first | refine blk_drewN ?_ _ | refine blk_drew ?_ | refine blk_alloc ?_ _)); exact BK115.out⟩, ⟨by repeat (first | (with_reducible first | exact HB.out | apply below_alloc | apply pw_below_drewN | apply below_drew1 | refine below_set ?_ GE115.out) | exact HB.out)⟩⟩
              · rw [if_neg c31] at H
                have c31b0 : (a0_1.toList == ([102] : List UInt8)) = false := beq_eq_false_iff_ne.mpr c31
                have c31b1 : (a0_1.toList != ([102] : List UInt8)) = true := bne_iff_ne.mpr c31
                have H' := Aside0.mk H
                clear H
                have hcz33_0 : w4.cell? ⟨gb115, 0, none⟩ = some (.int .u8 a0_0) := (blk_cell BK115.out 0).trans rfl
                have hcz33_1 : w4.cell? ⟨gb115, 1, none⟩ = some (.string a0_1) := (blk_cell BK115.out 1).trans rfl
                have hcz33_2 : w4.cell? ⟨gb115, 2, none⟩ = some (.string a0_2) := (blk_cell BK115.out 2).trans rfl
                have hcz33_3 : w4.cell? ⟨gb115, 3, none⟩ = some (.slice A0_3 l0_3.length c0_3) := (blk_cell BK115.out 3).trans rfl
                have hcz33_4 : w4.cell? ⟨gb115, 4, none⟩ = some (.bool a0_4) := (blk_cell BK115.out 4).trans rfl
                have hcz33_5 : w4.cell? ⟨gb115, 5, none⟩ = some (.bool false) := (blk_cell BK115.out 5).trans rfl
                have hcz33_6 : w4.cell? ⟨gb115, 6, none⟩ = some (.slice A0_6 l0_6.length c0_6) := (blk_cell BK115.out 6).trans rfl
                have hfz33_0 := blk_frozen BK115.out 0
                have hfz33_1 := blk_frozen BK115.out 1
                have hfz33_2 := blk_frozen BK115.out 2
                have hfz33_3 := blk_frozen BK115.out 3
                have hfz33_4 := blk_frozen BK115.out 4
                have hfz33_5 := blk_frozen BK115.out 5
                have hfz33_6 := blk_frozen BK115.out 6
                go_wp2
                go_meet
                case rel => exact ⟨_, (true), (by first | rfl | (simp; done) | (simp [*]; done)), H', ⟨by first | omega | exact Nat.le_refl _⟩, ⟨by (with_reducible repeat (first | refine blk_drewN ?_ _ | refine blk_drew ?_ | refine blk_alloc ?_ _)); exact BK115.out⟩, ⟨by repeat (first | (with_reducible first | exact HB.out | apply below_alloc | apply pw_below_drewN | apply below_drew1 | refine below_set ?_ GE115.out) | exact HB.out)⟩⟩
          · rw [if_neg c28] at H
            have c28b0 : (a0_0 == 35) = false := beq_eq_false_iff_ne.mpr c28
            have c28b1 : (a0_0 != 35) = true := bne_iff_ne.mpr c28
            have H' := Aside0.mk H
            clear H
            have hcz34_0 : w4.cell? ⟨gb115, 0, none⟩ = some (.int .u8 a0_0) := (blk_cell BK115.out 0).trans rfl
            have hcz34_1 : w4.cell? ⟨gb115, 1, none⟩ = some (.string a0_1) := (blk_cell BK115.out 1).trans rfl
            have hcz34_2 : w4.cell? ⟨gb115, 2, none⟩ = some (.string a0_2) := (blk_cell BK115.out 2).trans rfl
            have hcz34_3 : w4.cell? ⟨gb115, 3, none⟩ = some (.slice A0_3 l0_3.length c0_3) := (blk_cell BK115.out 3).trans rfl
            have hcz34_4 : w4.cell? ⟨gb115, 4, none⟩ = some (.bool a0_4) := (blk_cell BK115.out 4).trans rfl
            have hcz34_5 : w4.cell? ⟨gb115, 5, none⟩ = some (.bool false) := (blk_cell BK115.out 5).trans rfl
            have hcz34_6 : w4.cell? ⟨gb115, 6, none⟩ = some (.slice A0_6 l0_6.length c0_6) := (blk_cell BK115.out 6).trans rfl
            have hfz34_0 := blk_frozen BK115.out 0
            have hfz34_1 := blk_frozen BK115.out 1
            have hfz34_2 := blk_frozen BK115.out 2
            have hfz34_3 := blk_frozen BK115.out 3
            have hfz34_4 := blk_frozen BK115.out 4
            have hfz34_5 := blk_frozen BK115.out 5
            have hfz34_6 := blk_frozen BK115.out 6
            go_wp2
            go_meet
            case rel => exact ⟨_, ((a0_0 == 124)), (by first | rfl | (simp; done) | (simp [*]; done)), H', ⟨by first | omega | exact Nat.le_refl _⟩, ⟨by (with_reducible repeat (first | refine blk_drewN ?_ _ | refine blk_drew ?_ | refine blk_alloc ?_ _)); exact BK115.out⟩, ⟨by repeat (first | (with_reducible first | exact HB.out | apply below_alloc | apply pw_below_drewN | apply below_drew1 | refine below_set ?_ GE115.out) | exact HB.out)⟩⟩
      · rw [if_neg c25] at H
        have c25b0 : (a0_0 == 95) = false := beq_eq_false_iff_ne.mpr c25
        have c25b1 : (a0_0 != 95) = true := bne_iff_ne.mpr c25
        by_cases c35 : a0_0 = 35
        · rw [if_pos c35] at H
          have c35b0 : (a0_0 == 35) = true := beq_iff_eq.mpr c35
          have c35b1 : (a0_0 != 35) = false := bne_eq_false_iff_eq.mpr c35
          clear c35
          by_cases c36 : a0_1.toList = ([116] : List UInt8)
          · rw [if_pos c36] at H
            have c36b0 : (a0_1.toList == ([116] : List UInt8)) = true := beq_iff_eq.mpr c36
            have c36b1 : (a0_1.toList != ([116] : List UInt8)) = false := bne_eq_false_iff_eq.mpr c36
            clear c36
            have H' := Aside0.mk H
            clear H
            have hcz37_0 : w4.cell? ⟨gb115, 0, none⟩ = some (.int .u8 a0_0) := (blk_cell BK115.out 0).trans rfl
            have hcz37_1 : w4.cell? ⟨gb115, 1, none⟩ = some (.string a0_1) := (blk_cell BK115.out 1).trans rfl
            have hcz37_2 : w4.cell? ⟨gb115, 2, none⟩ = some (.string a0_2) := (blk_cell BK115.out 2).trans rfl
            have hcz37_3 : w4.cell? ⟨gb115, 3, none⟩ = some (.slice A0_3 l0_3.length c0_3) := (blk_cell BK115.out 3).trans rfl
            have hcz37_4 : w4.cell? ⟨gb115, 4, none⟩ = some (.bool a0_4) := (blk_cell BK115.out 4).trans rfl
            have hcz37_5 : w4.cell? ⟨gb115, 5, none⟩ = some (.bool false) := (blk_cell BK115.out 5).trans rfl
            have hcz37_6 : w4.cell? ⟨gb115, 6, none⟩ = some (.slice A0_6 l0_6.length c0_6) := (blk_cell BK115.out 6).trans rfl
            have hfz37_0 := blk_frozen BK115.out 0
            have hfz37_1 := blk_frozen BK115.out 1
            have hfz37_2 := blk_frozen BK115.out 2
            have hfz37_3 := blk_frozen BK115.out 3
            have hfz37_4 := blk_frozen BK115.out 4
            have hfz37_5 := blk_frozen BK115.out 5
            have hfz37_6 := blk_frozen BK115.out 6
            go_wp2
            go_meet
            case rel => exact ⟨_, ((a0_0 == 124)), (by first | rfl | (simp; done) | (simp [*]; done)), H', ⟨by first | omega | exact Nat.le_refl _⟩, ⟨by (with_reducible repeat (first | refine blk_drewN ?_ _ | refine blk_drew ?_ | refine blk_alloc ?_ _)); exact BK115.out⟩, ⟨by repeat (first | (with_reducible first | exact HB.out | apply below_alloc | apply pw_below_drewN | apply below_drew1 | refine below_set ?_ GE115.out) | exact HB.out)⟩⟩
          · rw [if_neg c36] at H
            have c36b0 : (a0_1.toList == ([116] : List UInt8)) = false := beq_eq_false_iff_ne.mpr c36
            have c36b1 : (a0_1.toList != ([116] : List UInt8)) = true := bne_iff_ne.mpr c36
            by_cases c38 : a0_1.toList = ([102] : List UInt8)
            · rw [if_pos c38] at H
              have c38b0 : (a0_1.toList == ([102] : List UInt8)) = true := beq_iff_eq.mpr c38
              have c38b1 : (a0_1.toList != ([102] : List UInt8)) = false := bne_eq_false_iff_eq.mpr c38
              clear c38
              have H' := Aside0.mk H
              clear H
              have hcz39_0 : w4.cell? ⟨gb115, 0, none⟩ = some (.int .u8 a0_0) := (blk_cell BK115.out 0).trans rfl
              have hcz39_1 : w4.cell? ⟨gb115, 1, none⟩ = some (.string a0_1) := (blk_cell BK115.out 1).trans rfl
              have hcz39_2 : w4.cell? ⟨gb115, 2, none⟩ = some (.string a0_2) := (blk_cell BK115.out 2).trans rfl
              have hcz39_3 : w4.cell? ⟨gb115, 3, none⟩ = some (.slice A0_3 l0_3.length c0_3) := (blk_cell BK115.out 3).trans rfl
              have hcz39_4 : w4.cell? ⟨gb115, 4, none⟩ = some (.bool a0_4) := (blk_cell BK115.out 4).trans rfl
              have hcz39_5 : w4.cell? ⟨gb115, 5, none⟩ = some (.bool false) := (blk_cell BK115.out 5).trans rfl
              have hcz39_6 : w4.cell? ⟨gb115, 6, none⟩ = some (.slice A0_6 l0_6.length c0_6) := (blk_cell BK115.out 6).trans rfl
              have hfz39_0 := blk_frozen BK115.out 0
              have hfz39_1 := blk_frozen BK115.out 1
              have hfz39_2 := blk_frozen BK115.out 2
              have hfz39_3 := blk_frozen BK115.out 3
              have hfz39_4 := blk_frozen BK115.out 4
              have hfz39_5 := blk_frozen BK115.out 5
              have hfz39_6 := blk_frozen BK115.out 6
              go_wp2
              go_meet
              case rel => exact ⟨_, ((a0_0 == 124)), (by first | rfl | (simp; done) | (simp [*]; done)), H', ⟨by first | omega | exact Nat.le_refl _⟩, ⟨by (with_reducible repeat (first | refine blk_drewN ?_ _ | refine blk_drew ?_ | refine blk_alloc ?_ _)); exact BK115.out⟩, ⟨by repeat (first | (with_reducible first | exact HB.out | apply below_alloc | apply pw_below_drewN | apply below_drew1 | refine below_set ?_ GE115.out) | exact HB.out)⟩⟩
            · rw [if_neg c38] at H
              have c38b0 : (a0_1.toList == ([102] : List UInt8)) = false := beq_eq_false_iff_ne.mpr c38
              have c38b1 : (a0_1.toList != ([102] : List UInt8)) = true := bne_iff_ne.mpr c38
              have H' := Aside0.mk H
              clear H
              have hcz40_0 : w4.cell? ⟨gb115, 0, none⟩ = some (.int .u8 a0_0) := (blk_cell BK115.out 0).trans rfl
              have hcz40_1 : w4.cell? ⟨gb115, 1, none⟩ = some (.string a0_1) := (blk_cell BK115.out 1).trans rfl
              have hcz40_2 : w4.cell? ⟨gb115, 2, none⟩ = some (.string a0_2) := (blk_cell BK115.out 2).trans rfl
              have hcz40_3 : w4.cell? ⟨gb115, 3, none⟩ = some (.slice A0_3 l0_3.length c0_3) := (blk_cell BK115.out 3).trans rfl
              have hcz40_4 : w4.cell? ⟨gb115, 4, none⟩ = some (.bool a0_4) := (blk_cell BK115.out 4).trans rfl
              have hcz40_5 : w4.cell? ⟨gb115, 5, none⟩ = some (.bool false) := (blk_cell BK115.out 5).trans rfl
              have hcz40_6 : w4.cell? ⟨gb115, 6, none⟩ = some (.slice A0_6 l0_6.length c0_6) := (blk_cell BK115.out 6).trans rfl
              have hfz40_0 := blk_frozen BK115.out 0
              have hfz40_1 := blk_frozen BK115.out 1
              have hfz40_2 := blk_frozen BK115.out 2
              have hfz40_3 := blk_frozen BK115.out 3
              have hfz40_4 := blk_frozen BK115.out 4
              have hfz40_5 := blk_frozen BK115.out 5
              have hfz40_6 := blk_frozen BK115.out 6
              go_wp2
              go_meet
              case rel => exact ⟨_, (true), (by first | rfl | (simp; done) | (simp [*]; done)), H', ⟨by first | omega | exact Nat.le_refl _⟩, ⟨by (with_reducible repeat (first | refine blk_drewN ?_ _ | refine blk_drew ?_ | refine blk_alloc ?_ _)); exact BK115.out⟩, ⟨by repeat (first | (with_reducible first | exact HB.out | apply below_alloc | apply pw_below_drewN | apply below_drew1 | refine below_set ?_ GE115.out) | exact HB.out)⟩⟩
        · rw [if_neg c35] at H
          have c35b0 : (a0_0 == 35) = false := beq_eq_false_iff_ne.mpr c35
          have c35b1 : (a0_0 != 35) = true := bne_iff_ne.mpr c35
          have H' := Aside0.mk H
          clear H
          have hcz41_0 : w4.cell? ⟨gb115, 0, none⟩ = some (.int .u8 a0_0) := (blk_cell BK115.out 0).trans rfl
          have hcz41_1 : w4.cell? ⟨gb115, 1, none⟩ = some (.string a0_1) := (blk_cell BK115.out 1).trans rfl
          have hcz41_2 : w4.cell? ⟨gb115, 2, none⟩ = some (.string a0_2) := (blk_cell BK115.out 2).trans rfl
          have hcz41_3 : w4.cell? ⟨gb115, 3, none⟩ = some (.slice A0_3 l0_3.length c0_3) := (blk_cell BK115.out 3).trans rfl
          have hcz41_4 : w4.cell? ⟨gb115, 4, none⟩ = some (.bool a0_4) := (blk_cell BK115.out 4).trans rfl
          have hcz41_5 : w4.cell? ⟨gb115, 5, none⟩ = some (.bool false) := (blk_cell BK115.out 5).trans rfl
          have hcz41_6 : w4.cell? ⟨gb115, 6, none⟩ = some (.slice A0_6 l0_6.length c0_6) := (blk_cell BK115.out 6).trans rfl
          have hfz41_0 := blk_frozen BK115.out 0
          have hfz41_1 := blk_frozen BK115.out 1
          have hfz41_2 := blk_frozen BK115.out 2
          have hfz41_3 := blk_frozen BK115.out 3
          have hfz41_4 := blk_frozen BK115.out 4
          have hfz41_5 := blk_frozen BK115.out 5
          have hfz41_6 := blk_frozen BK115.out 6
          go_wp2
          go_meet
          case rel => exact ⟨_, ((a0_0 == 124)), (by first | rfl | (simp; done) | (simp [*]; done)), H', ⟨by first | omega | exact Nat.le_refl _⟩, ⟨by (with_reducible repeat (first | refine blk_drewN ?_ _ | refine blk_drew ?_ | refine blk_alloc ?_ _)); exact BK115.out⟩, ⟨by repeat (first | (with_reducible first | exact HB.out | apply below_alloc | apply pw_below_drewN | apply below_drew1 | refine below_set ?_ GE115.out) | exact HB.out)⟩⟩
  case rest =>
    clear HC3
    try clear c1
    try clear c2
    try clear p2
    try clear c3
    try clear c5
    try clear c6
    try clear c7
    try clear c7b0
    try clear c7b1
    try clear c8
    try clear c8b0
    try clear c8b1
    try clear c10
    try clear c10b0
    try clear c10b1
    try clear c11
    try clear c11b0
    try clear c11b1
    try clear c13
    try clear c13b0
    try clear c13b1
    try clear c17
    try clear c17b0
    try clear c17b1
    try clear c18
    try clear c18b0
    try clear c18b1
    try clear c20
    try clear c20b0
    try clear c20b1
    try clear c25
    try clear c25b0
    try clear c25b1
    try clear c26
    try clear c26b0
    try clear c26b1
    try clear c28
    try clear c28b0
    try clear c28b1
    try clear c29
    try clear c29b0
    try clear c29b1
    try clear c31
    try clear c31b0
    try clear c31b1
    try clear c35
    try clear c35b0
    try clear c35b1
    try clear c36
    try clear c36b0
    try clear c36b1
    try clear c38
    try clear c38b0
    try clear c38b1
    try clear hcz12_0
    try clear hcz12_1
    try clear hcz12_2
    try clear hcz12_3
    try clear hcz12_4
    try clear hcz12_5
    try clear hcz12_6
    try clear hcz14_0
    try clear hcz14_1
    try clear hcz14_2
    try clear hcz14_3
    try clear hcz14_4
    try clear hcz14_5
    try clear hcz14_6
    try clear hcz15_0
    try clear hcz15_1
    try clear hcz15_2
    try clear hcz15_3
    try clear hcz15_4
    try clear hcz15_5
    try clear hcz15_6
    try clear hcz16_0
    try clear hcz16_1
    try clear hcz16_2
    try clear hcz16_3
    try clear hcz16_4
    try clear hcz16_5
    try clear hcz16_6
    try clear hcz19_0
    try clear hcz19_1
    try clear hcz19_2
    try clear hcz19_3
    try clear hcz19_4
    try clear hcz19_5
    try clear hcz19_6
    try clear hcz21_0
    try clear hcz21_1
    try clear hcz21_2
    try clear hcz21_3
    try clear hcz21_4
    try clear hcz21_5
    try clear hcz21_6
    try clear hcz22_0
    try clear hcz22_1
    try clear hcz22_2
    try clear hcz22_3
    try clear hcz22_4
    try clear hcz22_5
    try clear hcz22_6
    try clear hcz23_0
    try clear hcz23_1
    try clear hcz23_2
    try clear hcz23_3
    try clear hcz23_4
    try clear hcz23_5
    try clear hcz23_6
    try clear hcz24_0
    try clear hcz24_1
    try clear hcz24_2
    try clear hcz24_3
    try clear hcz24_4
    try clear hcz24_5
    try clear hcz24_6
    try clear hcz27_0
    try clear hcz27_1
    try clear hcz27_2
    try clear hcz27_3
    try clear hcz27_4
    try clear hcz27_5
    try clear hcz27_6
    try clear hcz30_0
    try clear hcz30_1
    try clear hcz30_2
    try clear hcz30_3
    try clear hcz30_4
    try clear hcz30_5
    try clear hcz30_6
    try clear hcz32_0
    try clear hcz32_1
    try clear hcz32_2
    try clear hcz32_3
    try clear hcz32_4
    try clear hcz32_5
    try clear hcz32_6
    try clear hcz33_0
    try clear hcz33_1
    try clear hcz33_2
    try clear hcz33_3
    try clear hcz33_4
    try clear hcz33_5
    try clear hcz33_6
    try clear hcz34_0
    try clear hcz34_1
    try clear hcz34_2
    try clear hcz34_3
    try clear hcz34_4
    try clear hcz34_5
    try clear hcz34_6
    try clear hcz37_0
    try clear hcz37_1
    try clear hcz37_2
    try clear hcz37_3
    try clear hcz37_4
    try clear hcz37_5
    try clear hcz37_6
    try clear hcz39_0
    try clear hcz39_1
    try clear hcz39_2
    try clear hcz39_3
    try clear hcz39_4
    try clear hcz39_5
    try clear hcz39_6
    try clear hcz40_0
    try clear hcz40_1
    try clear hcz40_2
    try clear hcz40_3
    try clear hcz40_4
    try clear hcz40_5
    try clear hcz40_6
    try clear hcz41_0
    try clear hcz41_1
    try clear hcz41_2
    try clear hcz41_3
    try clear hcz41_4
    try clear hcz41_5
    try clear hcz41_6
    try clear hcz9_0
    try clear hcz9_1
    try clear hcz9_2
    try clear hcz9_3
    try clear hcz9_4
    try clear hcz9_5
    try clear hcz9_6
    try clear hfz12_0
    try clear hfz12_1
    try clear hfz12_2
    try clear hfz12_3
    try clear hfz12_4
    try clear hfz12_5
    try clear hfz12_6
    try clear hfz14_0
    try clear hfz14_1
    try clear hfz14_2
    try clear hfz14_3
    try clear hfz14_4
    try clear hfz14_5
    try clear hfz14_6
    try clear hfz15_0
    try clear hfz15_1
    try clear hfz15_2
    try clear hfz15_3
    try clear hfz15_4
    try clear hfz15_5
    try clear hfz15_6
    try clear hfz16_0
    try clear hfz16_1
    try clear hfz16_2
    try clear hfz16_3
    try clear hfz16_4
    try clear hfz16_5
    try clear hfz16_6
    try clear hfz19_0
    try clear hfz19_1
    try clear hfz19_2
    try clear hfz19_3
    try clear hfz19_4
    try clear hfz19_5
    try clear hfz19_6
    try clear hfz21_0
    try clear hfz21_1
    try clear hfz21_2
    try clear hfz21_3
    try clear hfz21_4
    try clear hfz21_5
    try clear hfz21_6
    try clear hfz22_0
    try clear hfz22_1
    try clear hfz22_2
    try clear hfz22_3
    try clear hfz22_4
    try clear hfz22_5
    try clear hfz22_6
    try clear hfz23_0
    try clear hfz23_1
    try clear hfz23_2
    try clear hfz23_3
    try clear hfz23_4
    try clear hfz23_5
    try clear hfz23_6
    try clear hfz24_0
    try clear hfz24_1
    try clear hfz24_2
    try clear hfz24_3
    try clear hfz24_4
    try clear hfz24_5
    try clear hfz24_6
    try clear hfz27_0
    try clear hfz27_1
    try clear hfz27_2
    try clear hfz27_3
    try clear hfz27_4
    try clear hfz27_5
    try clear hfz27_6
    try clear hfz30_0
    try clear hfz30_1
    try clear hfz30_2
    try clear hfz30_3
    try clear hfz30_4
    try clear hfz30_5
    try clear hfz30_6
    try clear hfz32_0
    try clear hfz32_1
    try clear hfz32_2
    try clear hfz32_3
    try clear hfz32_4
    try clear hfz32_5
    try clear hfz32_6
    try clear hfz33_0
    try clear hfz33_1
    try clear hfz33_2
    try clear hfz33_3
    try clear hfz33_4
    try clear hfz33_5
    try clear hfz33_6
    try clear hfz34_0
    try clear hfz34_1
    try clear hfz34_2
    try clear hfz34_3
    try clear hfz34_4
    try clear hfz34_5
    try clear hfz34_6
    try clear hfz37_0
    try clear hfz37_1
    try clear hfz37_2
    try clear hfz37_3
    try clear hfz37_4
    try clear hfz37_5
    try clear hfz37_6
    try clear hfz39_0
    try clear hfz39_1
    try clear hfz39_2
    try clear hfz39_3
    try clear hfz39_4
    try clear hfz39_5
    try clear hfz39_6
    try clear hfz40_0
    try clear hfz40_1
    try clear hfz40_2
    try clear hfz40_3
    try clear hfz40_4
    try clear hfz40_5
    try clear hfz40_6
    try clear hfz41_0
    try clear hfz41_1
    try clear hfz41_2
    try clear hfz41_3
    try clear hfz41_4
    try clear hfz41_5
    try clear hfz41_6
    try clear hfz9_0
    try clear hfz9_1
    try clear hfz9_2
    try clear hfz9_3
    try clear hfz9_4
    try clear hfz9_5
    try clear hfz9_6
    obtain ⟨kq, x43_2, rfl, HA, HJ2, BK115, HB⟩ := hcut
    cases kq with
    | zero => exact absurd HA.out (by simp [laws_plainly.j0])
    | succ kj2 =>
      have H := HA.out
      clear HA
      simp only [laws_plainly.j0] at H
      by_cases c42 : x43_2 = true
      · subst c42
        have H1 : (some false) = some r := by rw [if_pos rfl] at H; exact H
        clear H
        have H := H1
        clear H1
        obtain rfl := Option.some.inj H
        go_wp2
        go_ret
        exact ⟨by first | rfl | (simp [errW_none, errW_some] <;> rfl) | (simp [*, errW_none, errW_some] <;> rfl), by repeat (first | (with_reducible first | exact HB.out | apply below_alloc | apply pw_below_drewN | apply below_drew1 | refine below_set ?_ GE115.out) | exact HB.out)⟩
      · replace c42 := Bool.eq_false_iff.mpr c42
        subst c42
        have H1 : (laws_plainly.l0 kj2 a1 l0_3 (l0_3.length : Int) 0) = some r := by rw [if_neg (show ¬ (false = true) by decide)] at H; exact H
        clear H
        have H := H1
        clear H1
        have H' := Aside0.mk H
        clear H
        have hcz43_0 : wc.cell? ⟨gb115, 0, none⟩ = some (.int .u8 a0_0) := (blk_cell BK115.out 0).trans rfl
        have hcz43_1 : wc.cell? ⟨gb115, 1, none⟩ = some (.string a0_1) := (blk_cell BK115.out 1).trans rfl
        have hcz43_2 : wc.cell? ⟨gb115, 2, none⟩ = some (.string a0_2) := (blk_cell BK115.out 2).trans rfl
        have hcz43_3 : wc.cell? ⟨gb115, 3, none⟩ = some (.slice A0_3 l0_3.length c0_3) := (blk_cell BK115.out 3).trans rfl
        have hcz43_4 : wc.cell? ⟨gb115, 4, none⟩ = some (.bool a0_4) := (blk_cell BK115.out 4).trans rfl
        have hcz43_5 : wc.cell? ⟨gb115, 5, none⟩ = some (.bool a0_5) := (blk_cell BK115.out 5).trans rfl
        have hcz43_6 : wc.cell? ⟨gb115, 6, none⟩ = some (.slice A0_6 l0_6.length c0_6) := (blk_cell BK115.out 6).trans rfl
        have hfz43_0 := blk_frozen BK115.out 0
        have hfz43_1 := blk_frozen BK115.out 1
        have hfz43_2 := blk_frozen BK115.out 2
        have hfz43_3 := blk_frozen BK115.out 3
        have hfz43_4 := blk_frozen BK115.out 4
        have hfz43_5 := blk_frozen BK115.out 5
        have hfz43_6 := blk_frozen BK115.out 6
        go_wp2
        go_loopg [47] kj2 (fun kq v47 w' => ∃ (x47_2 : Int), v47 = .int .i64 x47_2 ∧ Aside0 (laws_plainly.l0 kq a1 l0_3 (l0_3.length : Int) x47_2 = some r) ∧ Aside0 (kq ≤ kj2) ∧ Aside0 (w'.heap[gb115]? = some (.cells #[.int .u8 a0_0, .string a0_1, .string a0_2, (.slice A0_3 l0_3.length c0_3), .bool a0_4, .bool a0_5, (.slice A0_6 l0_6.length c0_6)] 43 (0, 0))) ∧ Aside0 (Below w.heap.size w w'))
        case atStart => exact ⟨(0), (by first | rfl | (simp; done) | (simp [*]; done)), H', ⟨Nat.le_refl _⟩, ⟨by (with_reducible repeat (first | refine blk_drewN ?_ _ | refine blk_drew ?_ | refine blk_alloc ?_ _)); exact BK115.out⟩, ⟨by repeat (first | (with_reducible first | exact HB.out | apply below_alloc | apply pw_below_drewN | apply below_drew1 | refine below_set ?_ GE115.out) | exact HB.out)⟩⟩
        case round =>
          clear H'
          try clear c1
          try clear c2
          try clear p2
          try clear c3
          try clear c4
          try clear c5
          try clear c6
          try clear c7
          try clear c7b0
          try clear c7b1
          try clear c8
          try clear c8b0
          try clear c8b1
          try clear c10
          try clear c10b0
          try clear c10b1
          try clear c11
          try clear c11b0
          try clear c11b1
          try clear c13
          try clear c13b0
          try clear c13b1
          try clear c17
          try clear c17b0
          try clear c17b1
          try clear c18
          try clear c18b0
          try clear c18b1
          try clear c20
          try clear c20b0
          try clear c20b1
          try clear c25
          try clear c25b0
          try clear c25b1
          try clear c26
          try clear c26b0
          try clear c26b1
          try clear c28
          try clear c28b0
          try clear c28b1
          try clear c29
          try clear c29b0
          try clear c29b1
          try clear c31
          try clear c31b0
          try clear c31b1
          try clear c35
          try clear c35b0
          try clear c35b1
          try clear c36
          try clear c36b0
          try clear c36b1
          try clear c38
          try clear c38b0
          try clear c38b1
          try clear c42
          try clear hcz12_0
          try clear hcz12_1
          try clear hcz12_2
          try clear hcz12_3
          try clear hcz12_4
          try clear hcz12_5
          try clear hcz12_6
          try clear hcz14_0
          try clear hcz14_1
          try clear hcz14_2
          try clear hcz14_3
          try clear hcz14_4
          try clear hcz14_5
          try clear hcz14_6
          try clear hcz15_0
          try clear hcz15_1
          try clear hcz15_2
          try clear hcz15_3
          try clear hcz15_4
          try clear hcz15_5
          try clear hcz15_6
          try clear hcz16_0
          try clear hcz16_1
          try clear hcz16_2
          try clear hcz16_3
          try clear hcz16_4
          try clear hcz16_5
          try clear hcz16_6
          try clear hcz19_0
          try clear hcz19_1
          try clear hcz19_2
          try clear hcz19_3
          try clear hcz19_4
          try clear hcz19_5
          try clear hcz19_6
          try clear hcz21_0
          try clear hcz21_1
          try clear hcz21_2
          try clear hcz21_3
          try clear hcz21_4
          try clear hcz21_5
          try clear hcz21_6
          try clear hcz22_0
          try clear hcz22_1
          try clear hcz22_2
          try clear hcz22_3
          try clear hcz22_4
          try clear hcz22_5
          try clear hcz22_6
          try clear hcz23_0
          try clear hcz23_1
          try clear hcz23_2
          try clear hcz23_3
          try clear hcz23_4
          try clear hcz23_5
          try clear hcz23_6
          try clear hcz24_0
          try clear hcz24_1
          try clear hcz24_2
          try clear hcz24_3
          try clear hcz24_4
          try clear hcz24_5
          try clear hcz24_6
          try clear hcz27_0
          try clear hcz27_1
          try clear hcz27_2
          try clear hcz27_3
          try clear hcz27_4
          try clear hcz27_5
          try clear hcz27_6
          try clear hcz30_0
          try clear hcz30_1
          try clear hcz30_2
          try clear hcz30_3
          try clear hcz30_4
          try clear hcz30_5
          try clear hcz30_6
          try clear hcz32_0
          try clear hcz32_1
          try clear hcz32_2
          try clear hcz32_3
          try clear hcz32_4
          try clear hcz32_5
          try clear hcz32_6
          try clear hcz33_0
          try clear hcz33_1
          try clear hcz33_2
          try clear hcz33_3
          try clear hcz33_4
          try clear hcz33_5
          try clear hcz33_6
          try clear hcz34_0
          try clear hcz34_1
          try clear hcz34_2
          try clear hcz34_3
          try clear hcz34_4
          try clear hcz34_5
          try clear hcz34_6
          try clear hcz37_0
          try clear hcz37_1
          try clear hcz37_2
          try clear hcz37_3
          try clear hcz37_4
          try clear hcz37_5
          try clear hcz37_6
          try clear hcz39_0
          try clear hcz39_1
          try clear hcz39_2
          try clear hcz39_3
          try clear hcz39_4
          try clear hcz39_5
          try clear hcz39_6
          try clear hcz40_0
          try clear hcz40_1
          try clear hcz40_2
          try clear hcz40_3
          try clear hcz40_4
          try clear hcz40_5
          try clear hcz40_6
          try clear hcz41_0
          try clear hcz41_1
          try clear hcz41_2
          try clear hcz41_3
          try clear hcz41_4
          try clear hcz41_5
          try clear hcz41_6
          try clear hcz43_0
          try clear hcz43_1
          try clear hcz43_2
          try clear hcz43_3
          try clear hcz43_4
          try clear hcz43_5
          try clear hcz43_6
          try clear hcz9_0
          try clear hcz9_1
          try clear hcz9_2
          try clear hcz9_3
          try clear hcz9_4
          try clear hcz9_5
          try clear hcz9_6
          try clear hfz12_0
          try clear hfz12_1
          try clear hfz12_2
          try clear hfz12_3
          try clear hfz12_4
          try clear hfz12_5
          try clear hfz12_6
          try clear hfz14_0
          try clear hfz14_1
          try clear hfz14_2
          try clear hfz14_3
          try clear hfz14_4
          try clear hfz14_5
          try clear hfz14_6
          try clear hfz15_0
          try clear hfz15_1
          try clear hfz15_2
          try clear hfz15_3
          try clear hfz15_4
          try clear hfz15_5
          try clear hfz15_6
          try clear hfz16_0
          try clear hfz16_1
          try clear hfz16_2
          try clear hfz16_3
          try clear hfz16_4
          try clear hfz16_5
          try clear hfz16_6
          try clear hfz19_0
          try clear hfz19_1
          try clear hfz19_2
          try clear hfz19_3
          try clear hfz19_4
          try clear hfz19_5
          try clear hfz19_6
          try clear hfz21_0
          try clear hfz21_1
          try clear hfz21_2
          try clear hfz21_3
          try clear hfz21_4
          try clear hfz21_5
          try clear hfz21_6
          try clear hfz22_0
          try clear hfz22_1
          try clear hfz22_2
          try clear hfz22_3
          try clear hfz22_4
          try clear hfz22_5
          try clear hfz22_6
          try clear hfz23_0
          try clear hfz23_1
          try clear hfz23_2
          try clear hfz23_3
          try clear hfz23_4
          try clear hfz23_5
          try clear hfz23_6
          try clear hfz24_0
          try clear hfz24_1
          try clear hfz24_2
          try clear hfz24_3
          try clear hfz24_4
          try clear hfz24_5
          try clear hfz24_6
          try clear hfz27_0
          try clear hfz27_1
          try clear hfz27_2
          try clear hfz27_3
          try clear hfz27_4
          try clear hfz27_5
          try clear hfz27_6
          try clear hfz30_0
          try clear hfz30_1
          try clear hfz30_2
          try clear hfz30_3
          try clear hfz30_4
          try clear hfz30_5
          try clear hfz30_6
          try clear hfz32_0
          try clear hfz32_1
          try clear hfz32_2
          try clear hfz32_3
          try clear hfz32_4
          try clear hfz32_5
          try clear hfz32_6
          try clear hfz33_0
          try clear hfz33_1
          try clear hfz33_2
          try clear hfz33_3
          try clear hfz33_4
          try clear hfz33_5
          try clear hfz33_6
          try clear hfz34_0
          try clear hfz34_1
          try clear hfz34_2
          try clear hfz34_3
          try clear hfz34_4
          try clear hfz34_5
          try clear hfz34_6
          try clear hfz37_0
          try clear hfz37_1
          try clear hfz37_2
          try clear hfz37_3
          try clear hfz37_4
          try clear hfz37_5
          try clear hfz37_6
          try clear hfz39_0
          try clear hfz39_1
          try clear hfz39_2
          try clear hfz39_3
          try clear hfz39_4
          try clear hfz39_5
          try clear hfz39_6
          try clear hfz40_0
          try clear hfz40_1
          try clear hfz40_2
          try clear hfz40_3
          try clear hfz40_4
          try clear hfz40_5
          try clear hfz40_6
          try clear hfz41_0
          try clear hfz41_1
          try clear hfz41_2
          try clear hfz41_3
          try clear hfz41_4
          try clear hfz41_5
          try clear hfz41_6
          try clear hfz43_0
          try clear hfz43_1
          try clear hfz43_2
          try clear hfz43_3
          try clear hfz43_4
          try clear hfz43_5
          try clear hfz43_6
          try clear hfz9_0
          try clear hfz9_1
          try clear hfz9_2
          try clear hfz9_3
          try clear hfz9_4
          try clear hfz9_5
          try clear hfz9_6
          try clear p2
          obtain ⟨x47_2, rfl, HA, HK2, BK115, HB⟩ := hrel
          cases gk with
          | zero => exact absurd HA.out (by simp [laws_plainly.l0])
          | succ k2 =>
            have H := HA.out
            clear HA
            simp only [laws_plainly.l0] at H
            by_cases c44 : x47_2 < (l0_3.length : Int)
            · rw [if_pos c44] at H
              have c44b0 : decide (x47_2 < (l0_3.length : Int)) = true := decide_eq_true c44
              clear c44
              by_cases c45 : 0 ≤ x47_2
              · rw [if_pos c45] at H
                have c45b0 : decide (0 ≤ x47_2) = true := decide_eq_true c45
                clear c45
                by_cases c46 : x47_2 < (l0_3.length : Int)
                · rw [if_pos c46] at H
                  have c46b0 : decide (x47_2 < (l0_3.length : Int)) = true := decide_eq_true c46
                  clear c46
                  replace H := Option.bind_eq_some_iff.mp H
                  obtain ⟨t118, A470, H⟩ := H
                  replace H : (if t118 = true then (laws_plainly.l0 k2 a1 l0_3 (l0_3.length : Int) (wrap64 (x47_2 + 1))) else (some false)) = some r := H
                  have A47 := Aside0.mk A470
                  clear A470
                  by_cases c48 : t118 = true
                  · subst c48
                    have H1 : (laws_plainly.l0 k2 a1 l0_3 (l0_3.length : Int) (wrap64 (x47_2 + 1))) = some r := by rw [if_pos rfl] at H; exact H
                    clear H
                    have H := H1
                    clear H1
                    have H' := Aside0.mk H
                    clear H
                    have p116 : 0 ≤ (x47_2 : Int) := of_decide_eq_true (by first | (with_reducible assumption) | assumption)
                    have q116 : x47_2 < (l0_3.length : Int) := of_decide_eq_true (by first | (with_reducible assumption) | assumption)
                    obtain ⟨ad116, A116_3, c116_3, A116_6, c116_6, e116, hx116_0, hx116_1, hx116_2, hx116_3, hx116_4, hx116_5, hx116_6, hl116_3, hi116_3, hl116_6, hi116_6⟩ := at_T43 HR0_3.out x47_2 p116 q116
                    cases e116
                    replace hx116_0 := (HB.out.cell (World.block_lt_of_cell? w _ hx116_0)).trans hx116_0
                    replace hx116_1 := (HB.out.cell (World.block_lt_of_cell? w _ hx116_1)).trans hx116_1
                    replace hx116_2 := (HB.out.cell (World.block_lt_of_cell? w _ hx116_2)).trans hx116_2
                    replace hx116_3 := (HB.out.cell (World.block_lt_of_cell? w _ hx116_3)).trans hx116_3
                    replace hx116_4 := (HB.out.cell (World.block_lt_of_cell? w _ hx116_4)).trans hx116_4
                    replace hx116_5 := (HB.out.cell (World.block_lt_of_cell? w _ hx116_5)).trans hx116_5
                    replace hx116_6 := (HB.out.cell (World.block_lt_of_cell? w _ hx116_6)).trans hx116_6
                    have HR116_3 := Aside0.mk hi116_3
                    have HC116_3 := Aside0.mk hl116_3
                    clear hi116_3 hl116_3
                    have HR116_6 := Aside0.mk hi116_6
                    have HC116_6 := Aside0.mk hl116_6
                    clear hi116_6 hl116_6
                    replace p116 := eq_true p116
                    replace q116 := eq_true q116
                    go_wp2_with (first | ((with_reducible refine gate_dst (N := 6) rfl ?_); (try (refine gate_guard (by rfl) ?_; dsimp only)); refine box_event ?hg (N := 6) ?hd (cs := #[.int .u8 0, .string (⟨#[]⟩ : ByteArray), .string (⟨#[]⟩ : ByteArray), .slice none 0 0, .bool false, .bool false, .slice none 0 0]) (t := 43) ?hr ?_; (case hd => rfl); (case hg => rfl); (case hr => first | (go_simp; done) | (go_simp; rfl)); intro gb117 hg w49 hbox hb; have n0_ := Aside0.mk (blk_below (g := gb115) (o := .cells #[.int .u8 a0_0, .string a0_1, .string a0_2, .slice (some ad116) l0_3.length c0_3, .bool a0_4, .bool a0_5, .slice A0_6 l0_6.length c0_6] 43 (0, 0)) (by (with_reducible repeat (first | refine blk_drewN ?_ _ | refine blk_drew ?_ | refine blk_alloc ?_ _)); exact BK115.out) hb); have n1_ := Aside0.mk (below_step (by repeat (first | (with_reducible first | exact HB.out | apply below_alloc | apply pw_below_drewN | apply below_drew1 | refine below_set ?_ GE115.out) | exact HB.out)) hb); have n2_ := Aside0.mk (hbox); have n3_ := Aside0.mk ((by rw [hg]; exact (below_size (by repeat (first | (with_reducible first | exact HB.out | apply below_alloc | apply pw_below_drewN | apply below_drew1 | refine below_set ?_ GE115.out) | exact HB.out))) : w.heap.size ≤ gb117)); have n4_ := Aside0.mk ((by rw [hg]; exact (below_size (by repeat (first | (with_reducible first | exact HB.out | apply below_alloc | apply pw_below_drewN | apply below_drew1 | refine below_set ?_ GE115.out) | exact HB.out))) : w.heap.size ≤ gb117)); have n5_ := Aside0.mk ((by rw [hg]; exact Nat.ne_of_lt (blk_lt (g := gb115) (o := .cells #[.int .u8 a0_0, .string a0_1, .string a0_2, .slice (some ad116) l0_3.length c0_3, .bool a0_4, .bool a0_5, .slice A0_6 l0_6.length c0_6] 43 (0, 0)) (by (with_reducible repeat (first | refine blk_drewN ?_ _ | refine blk_drew ?_ | refine blk_alloc ?_ _)); exact BK115.out)) : gb115 ≠ gb117)); have n6_ := Aside0.mk ((by rw [hg]; exact Nat.ne_of_gt (blk_lt (g := gb115) (o := .cells #[.int .u8 a0_0, .string a0_1, .string a0_2, .slice (some ad116) l0_3.length c0_3, .bool a0_4, .bool a0_5, .slice A0_6 l0_6.length c0_6] 43 (0, 0)) (by (with_reducible repeat (first | refine blk_drewN ?_ _ | refine blk_drew ?_ | refine blk_alloc ?_ _)); exact BK115.out)) : gb117 ≠ gb115)); clear BK115; clear HB; have BK115 := n0_; have HB := n1_; have BK117 := n2_; have GW117 := n3_; have GE117 := n4_; have NB115_117 := n5_; have NB117_115 := n6_; clear n0_ n1_ n2_ n3_ n4_ n5_ n6_; clear hb hbox hg; have hnb50 := NB117_115.out; have hnc50 := NB115_117.out; have hcz51_0 : w49.cell? ⟨gb117, 0, none⟩ = some (.int .u8 0) := (blk_cell BK117.out 0).trans rfl; have hcz51_1 : w49.cell? ⟨gb117, 1, none⟩ = some (.string (⟨#[]⟩ : ByteArray)) := (blk_cell BK117.out 1).trans rfl; have hcz51_2 : w49.cell? ⟨gb117, 2, none⟩ = some (.string (⟨#[]⟩ : ByteArray)) := (blk_cell BK117.out 2).trans rfl; have hcz51_3 : w49.cell? ⟨gb117, 3, none⟩ = some (.slice none 0 0) := (blk_cell BK117.out 3).trans rfl; have hcz51_4 : w49.cell? ⟨gb117, 4, none⟩ = some (.bool false) := (blk_cell BK117.out 4).trans rfl; have hcz51_5 : w49.cell? ⟨gb117, 5, none⟩ = some (.bool false) := (blk_cell BK117.out 5).trans rfl; have hcz51_6 : w49.cell? ⟨gb117, 6, none⟩ = some (.slice none 0 0) := (blk_cell BK117.out 6).trans rfl; have hfz51_0 := blk_frozen BK117.out 0; have hfz51_1 := blk_frozen BK117.out 1; have hfz51_2 := blk_frozen BK117.out 2; have hfz51_3 := blk_frozen BK117.out 3; have hfz51_4 := blk_frozen BK117.out 4; have hfz51_5 := blk_frozen BK117.out 5; have hfz51_6 := blk_frozen BK117.out 6) | ((with_reducible refine gate_callee (f := 35) rfl ?_); refine goesL_ (some 53) rfl rfl Try.func35 (by kernel_rfl) rfl #[.agg #[.int .u8 ((rd_T43 l0_3 x47_2).f0), .string ((rd_T43 l0_3 x47_2).f1), .string ((rd_T43 l0_3 x47_2).f2), .slice A116_3 ((rd_T43 l0_3 x47_2).f3).length c116_3, .bool ((rd_T43 l0_3 x47_2).f4), .bool ((rd_T43 l0_3 x47_2).f5), .slice A116_6 ((rd_T43 l0_3 x47_2).f6).length c116_6], .bool a1] rfl (by (try simp only [List.map_toArray, List.map_cons, List.map_nil]); first | done | rfl | (simp only [List.length_drop, List.length_take]; rfl)) ?_; (with_reducible refine (ih k2 (by have := HJ2.out; have := HK2.out; omega) ((rd_T43 l0_3 x47_2).f0) ((rd_T43 l0_3 x47_2).f1) ((rd_T43 l0_3 x47_2).f2) _ _ ((rd_T43 l0_3 x47_2).f3) ((rd_T43 l0_3 x47_2).f4) ((rd_T43 l0_3 x47_2).f5) _ _ ((rd_T43 l0_3 x47_2).f6) a1 true _ ?side1 ?side2 ?side3 ?side4 A47.out).mono ?_); (case side1 => exact Kd.C_below HR116_3.out (by repeat (first | (with_reducible first | exact HB.out | apply below_alloc | apply pw_below_drewN | apply below_drew1 | refine below_set ?_ GE115.out | refine below_set ?_ GE117.out) | exact HB.out))); (case side2 => exact HC116_3.out); (case side3 => exact Kd.C_below HR116_6.out (by repeat (first | (with_reducible first | exact HB.out | apply below_alloc | apply pw_below_drewN | apply below_drew1 | refine below_set ?_ GE115.out | refine below_set ?_ GE117.out) | exact HB.out))); (case side4 => exact HC116_6.out); rintro e w52 ⟨rfl, hb⟩; refine ⟨_, rfl, ?_⟩; have n0_ := Aside0.mk (blk_below (g := gb115) (o := .cells #[.int .u8 a0_0, .string a0_1, .string a0_2, .slice (some ad116) l0_3.length c0_3, .bool a0_4, .bool a0_5, .slice A0_6 l0_6.length c0_6] 43 (0, 0)) (by (with_reducible repeat (first | refine blk_drewN ?_ _ | refine blk_drew ?_ | refine blk_alloc ?_ _)); refine blk_far ?_ NB115_117.out _; (with_reducible repeat (first | refine blk_drewN ?_ _ | refine blk_drew ?_ | refine blk_alloc ?_ _)); refine blk_far ?_ NB115_117.out _; (with_reducible repeat (first | refine blk_drewN ?_ _ | refine blk_drew ?_ | refine blk_alloc ?_ _)); refine blk_far ?_ NB115_117.out _; (with_reducible repeat (first | refine blk_drewN ?_ _ | refine blk_drew ?_ | refine blk_alloc ?_ _)); refine blk_far ?_ NB115_117.out _; (with_reducible repeat (first | refine blk_drewN ?_ _ | refine blk_drew ?_ | refine blk_alloc ?_ _)); refine blk_far ?_ NB115_117.out _; (with_reducible repeat (first | refine blk_drewN ?_ _ | refine blk_drew ?_ | refine blk_alloc ?_ _)); refine blk_far ?_ NB115_117.out _; (with_reducible repeat (first | refine blk_drewN ?_ _ | refine blk_drew ?_ | refine blk_alloc ?_ _)); refine blk_far ?_ NB115_117.out _; (with_reducible repeat (first | refine blk_drewN ?_ _ | refine blk_drew ?_ | refine blk_alloc ?_ _)); exact BK115.out) hb); have n1_ := Aside0.mk (blk_below (g := gb117) (o := .cells #[.int .u8 ((rd_T43 l0_3 x47_2).f0), .string ((rd_T43 l0_3 x47_2).f1), .string ((rd_T43 l0_3 x47_2).f2), .slice A116_3 ((rd_T43 l0_3 x47_2).f3).length c116_3, .bool ((rd_T43 l0_3 x47_2).f4), .bool ((rd_T43 l0_3 x47_2).f5), .slice A116_6 ((rd_T43 l0_3 x47_2).f6).length c116_6] 43 (0, 0)) (by (with_reducible repeat (first | refine blk_drewN ?_ _ | refine blk_drew ?_ | refine blk_alloc ?_ _)); refine blk_put (cs := #[.int .u8 ((rd_T43 l0_3 x47_2).f0), .string ((rd_T43 l0_3 x47_2).f1), .string ((rd_T43 l0_3 x47_2).f2), .slice A116_3 ((rd_T43 l0_3 x47_2).f3).length c116_3, .bool ((rd_T43 l0_3 x47_2).f4), .bool ((rd_T43 l0_3 x47_2).f5), .slice none 0 0]) ?_ 6 _ rfl; (with_reducible repeat (first | refine blk_drewN ?_ _ | refine blk_drew ?_ | refine blk_alloc ?_ _)); refine blk_put (cs := #[.int .u8 ((rd_T43 l0_3 x47_2).f0), .string ((rd_T43 l0_3 x47_2).f1), .string ((rd_T43 l0_3 x47_2).f2), .slice A116_3 ((rd_T43 l0_3 x47_2).f3).length c116_3, .bool ((rd_T43 l0_3 x47_2).f4), .bool false, .slice none 0 0]) ?_ 5 _ rfl; (with_reducible repeat (first | refine blk_drewN ?_ _ | refine blk_drew ?_ | refine blk_alloc ?_ _)); refine blk_put (cs := #[.int .u8 ((rd_T43 l0_3 x47_2).f0), .string ((rd_T43 l0_3 x47_2).f1), .string ((rd_T43 l0_3 x47_2).f2), .slice A116_3 ((rd_T43 l0_3 x47_2).f3).length c116_3, .bool false, .bool false, .slice none 0 0]) ?_ 4 _ rfl; (with_reducible repeat (first | refine blk_drewN ?_ _ | refine blk_drew ?_ | refine blk_alloc ?_ _)); refine blk_put (cs := #[.int .u8 ((rd_T43 l0_3 x47_2).f0), .string ((rd_T43 l0_3 x47_2).f1), .string ((rd_T43 l0_3 x47_2).f2), .slice none 0 0, .bool false, .bool false, .slice none 0 0]) ?_ 3 _ rfl; (with_reducible repeat (first | refine blk_drewN ?_ _ | refine blk_drew ?_ | refine blk_alloc ?_ _)); refine blk_put (cs := #[.int .u8 ((rd_T43 l0_3 x47_2).f0), .string ((rd_T43 l0_3 x47_2).f1), .string (⟨#[]⟩ : ByteArray), .slice none 0 0, .bool false, .bool false, .slice none 0 0]) ?_ 2 _ rfl; (with_reducible repeat (first | refine blk_drewN ?_ _ | refine blk_drew ?_ | refine blk_alloc ?_ _)); refine blk_put (cs := #[.int .u8 ((rd_T43 l0_3 x47_2).f0), .string (⟨#[]⟩ : ByteArray), .string (⟨#[]⟩ : ByteArray), .slice none 0 0, .bool false, .bool false, .slice none 0 0]) ?_ 1 _ rfl; (with_reducible repeat (first | refine blk_drewN ?_ _ | refine blk_drew ?_ | refine blk_alloc ?_ _)); refine blk_put (cs := #[.int .u8 0, .string (⟨#[]⟩ : ByteArray), .string (⟨#[]⟩ : ByteArray), .slice none 0 0, .bool false, .bool false, .slice none 0 0]) ?_ 0 _ rfl; (with_reducible repeat (first | refine blk_drewN ?_ _ | refine blk_drew ?_ | refine blk_alloc ?_ _)); exact BK117.out) hb); have n2_ := Aside0.mk (below_step (by repeat (first | (with_reducible first | exact HB.out | apply below_alloc | apply pw_below_drewN | apply below_drew1 | refine below_set ?_ GE115.out | refine below_set ?_ GE117.out) | exact HB.out)) hb); clear BK115; clear BK117; clear HB; have BK115 := n0_; have BK117 := n1_; have HB := n2_; clear n0_ n1_ n2_; (try clear hb); (try clear hb2); (try clear hk); (try clear hi)))
                    go_roundg k2
                    case measure => have := HJ2.out; have := HK2.out; omega
                    case rel => exact ⟨(wrap64 (x47_2 + 1)), (by first | rfl | (simp; done) | (simp [*]; done)), H', ⟨by have := HJ2.out; have := HK2.out; omega⟩, ⟨by (with_reducible repeat (first | refine blk_drewN ?_ _ | refine blk_drew ?_ | refine blk_alloc ?_ _)); exact BK115.out⟩, ⟨by repeat (first | (with_reducible first | exact HB.out | apply below_alloc | apply pw_below_drewN | apply below_drew1 | refine below_set ?_ GE115.out | refine below_set ?_ GE117.out) | exact HB.out)⟩⟩
                  · replace c48 := Bool.eq_false_iff.mpr c48
                    subst c48
                    have H1 : (some false) = some r := by rw [if_neg (show ¬ (false = true) by decide)] at H; exact H
                    clear H
                    have H := H1
                    clear H1
                    obtain rfl := Option.some.inj H
                    have p116 : 0 ≤ (x47_2 : Int) := of_decide_eq_true (by first | (with_reducible assumption) | assumption)
                    have q116 : x47_2 < (l0_3.length : Int) := of_decide_eq_true (by first | (with_reducible assumption) | assumption)
                    obtain ⟨ad116, A116_3, c116_3, A116_6, c116_6, e116, hx116_0, hx116_1, hx116_2, hx116_3, hx116_4, hx116_5, hx116_6, hl116_3, hi116_3, hl116_6, hi116_6⟩ := at_T43 HR0_3.out x47_2 p116 q116
                    cases e116
                    replace hx116_0 := (HB.out.cell (World.block_lt_of_cell? w _ hx116_0)).trans hx116_0
                    replace hx116_1 := (HB.out.cell (World.block_lt_of_cell? w _ hx116_1)).trans hx116_1
                    replace hx116_2 := (HB.out.cell (World.block_lt_of_cell? w _ hx116_2)).trans hx116_2
                    replace hx116_3 := (HB.out.cell (World.block_lt_of_cell? w _ hx116_3)).trans hx116_3
                    replace hx116_4 := (HB.out.cell (World.block_lt_of_cell? w _ hx116_4)).trans hx116_4
                    replace hx116_5 := (HB.out.cell (World.block_lt_of_cell? w _ hx116_5)).trans hx116_5
                    replace hx116_6 := (HB.out.cell (World.block_lt_of_cell? w _ hx116_6)).trans hx116_6
                    have HR116_3 := Aside0.mk hi116_3
                    have HC116_3 := Aside0.mk hl116_3
                    clear hi116_3 hl116_3
                    have HR116_6 := Aside0.mk hi116_6
                    have HC116_6 := Aside0.mk hl116_6
                    clear hi116_6 hl116_6
                    replace p116 := eq_true p116
                    replace q116 := eq_true q116
                    go_wp2_with (first | ((with_reducible refine gate_dst (N := 6) rfl ?_); (try (refine gate_guard (by rfl) ?_; dsimp only)); refine box_event ?hg (N := 6) ?hd (cs := #[.int .u8 0, .string (⟨#[]⟩ : ByteArray), .string (⟨#[]⟩ : ByteArray), .slice none 0 0, .bool false, .bool false, .slice none 0 0]) (t := 43) ?hr ?_; (case hd => rfl); (case hg => rfl); (case hr => first | (go_simp; done) | (go_simp; rfl)); intro gb117 hg w53 hbox hb; have n0_ := Aside0.mk (blk_below (g := gb115) (o := .cells #[.int .u8 a0_0, .string a0_1, .string a0_2, .slice (some ad116) l0_3.length c0_3, .bool a0_4, .bool a0_5, .slice A0_6 l0_6.length c0_6] 43 (0, 0)) (by (with_reducible repeat (first | refine blk_drewN ?_ _ | refine blk_drew ?_ | refine blk_alloc ?_ _)); exact BK115.out) hb); have n1_ := Aside0.mk (below_step (by repeat (first | (with_reducible first | exact HB.out | apply below_alloc | apply pw_below_drewN | apply below_drew1 | refine below_set ?_ GE115.out) | exact HB.out)) hb); have n2_ := Aside0.mk (hbox); have n3_ := Aside0.mk ((by rw [hg]; exact (below_size (by repeat (first | (with_reducible first | exact HB.out | apply below_alloc | apply pw_below_drewN | apply below_drew1 | refine below_set ?_ GE115.out) | exact HB.out))) : w.heap.size ≤ gb117)); have n4_ := Aside0.mk ((by rw [hg]; exact (below_size (by repeat (first | (with_reducible first | exact HB.out | apply below_alloc | apply pw_below_drewN | apply below_drew1 | refine below_set ?_ GE115.out) | exact HB.out))) : w.heap.size ≤ gb117)); have n5_ := Aside0.mk ((by rw [hg]; exact Nat.ne_of_lt (blk_lt (g := gb115) (o := .cells #[.int .u8 a0_0, .string a0_1, .string a0_2, .slice (some ad116) l0_3.length c0_3, .bool a0_4, .bool a0_5, .slice A0_6 l0_6.length c0_6] 43 (0, 0)) (by (with_reducible repeat (first | refine blk_drewN ?_ _ | refine blk_drew ?_ | refine blk_alloc ?_ _)); exact BK115.out)) : gb115 ≠ gb117)); have n6_ := Aside0.mk ((by rw [hg]; exact Nat.ne_of_gt (blk_lt (g := gb115) (o := .cells #[.int .u8 a0_0, .string a0_1, .string a0_2, .slice (some ad116) l0_3.length c0_3, .bool a0_4, .bool a0_5, .slice A0_6 l0_6.length c0_6] 43 (0, 0)) (by (with_reducible repeat (first | refine blk_drewN ?_ _ | refine blk_drew ?_ | refine blk_alloc ?_ _)); exact BK115.out)) : gb117 ≠ gb115)); clear BK115; clear HB; have BK115 := n0_; have HB := n1_; have BK117 := n2_; have GW117 := n3_; have GE117 := n4_; have NB115_117 := n5_; have NB117_115 := n6_; clear n0_ n1_ n2_ n3_ n4_ n5_ n6_; clear hb hbox hg; have hnb54 := NB117_115.out; have hnc54 := NB115_117.out; have hcz55_0 : w53.cell? ⟨gb117, 0, none⟩ = some (.int .u8 0) := (blk_cell BK117.out 0).trans rfl; have hcz55_1 : w53.cell? ⟨gb117, 1, none⟩ = some (.string (⟨#[]⟩ : ByteArray)) := (blk_cell BK117.out 1).trans rfl; have hcz55_2 : w53.cell? ⟨gb117, 2, none⟩ = some (.string (⟨#[]⟩ : ByteArray)) := (blk_cell BK117.out 2).trans rfl; have hcz55_3 : w53.cell? ⟨gb117, 3, none⟩ = some (.slice none 0 0) := (blk_cell BK117.out 3).trans rfl; have hcz55_4 : w53.cell? ⟨gb117, 4, none⟩ = some (.bool false) := (blk_cell BK117.out 4).trans rfl; have hcz55_5 : w53.cell? ⟨gb117, 5, none⟩ = some (.bool false) := (blk_cell BK117.out 5).trans rfl; have hcz55_6 : w53.cell? ⟨gb117, 6, none⟩ = some (.slice none 0 0) := (blk_cell BK117.out 6).trans rfl; have hfz55_0 := blk_frozen BK117.out 0; have hfz55_1 := blk_frozen BK117.out 1; have hfz55_2 := blk_frozen BK117.out 2; have hfz55_3 := blk_frozen BK117.out 3; have hfz55_4 := blk_frozen BK117.out 4; have hfz55_5 := blk_frozen BK117.out 5; have hfz55_6 := blk_frozen BK117.out 6) | ((with_reducible refine gate_callee (f := 35) rfl ?_); refine goesL_ (some 53) rfl rfl Try.func35 (by kernel_rfl) rfl #[.agg #[.int .u8 ((rd_T43 l0_3 x47_2).f0), .string ((rd_T43 l0_3 x47_2).f1), .string ((rd_T43 l0_3 x47_2).f2), .slice A116_3 ((rd_T43 l0_3 x47_2).f3).length c116_3, .bool ((rd_T43 l0_3 x47_2).f4), .bool ((rd_T43 l0_3 x47_2).f5), .slice A116_6 ((rd_T43 l0_3 x47_2).f6).length c116_6], .bool a1] rfl (by (try simp only [List.map_toArray, List.map_cons, List.map_nil]); first | done | rfl | (simp only [List.length_drop, List.length_take]; rfl)) ?_; (with_reducible refine (ih k2 (by have := HJ2.out; have := HK2.out; omega) ((rd_T43 l0_3 x47_2).f0) ((rd_T43 l0_3 x47_2).f1) ((rd_T43 l0_3 x47_2).f2) _ _ ((rd_T43 l0_3 x47_2).f3) ((rd_T43 l0_3 x47_2).f4) ((rd_T43 l0_3 x47_2).f5) _ _ ((rd_T43 l0_3 x47_2).f6) a1 false _ ?side1 ?side2 ?side3 ?side4 A47.out).mono ?_); (case side1 => exact Kd.C_below HR116_3.out (by repeat (first | (with_reducible first | exact HB.out | apply below_alloc | apply pw_below_drewN | apply below_drew1 | refine below_set ?_ GE115.out | refine below_set ?_ GE117.out) | exact HB.out))); (case side2 => exact HC116_3.out); (case side3 => exact Kd.C_below HR116_6.out (by repeat (first | (with_reducible first | exact HB.out | apply below_alloc | apply pw_below_drewN | apply below_drew1 | refine below_set ?_ GE115.out | refine below_set ?_ GE117.out) | exact HB.out))); (case side4 => exact HC116_6.out); rintro e w56 ⟨rfl, hb⟩; refine ⟨_, rfl, ?_⟩; have n0_ := Aside0.mk (blk_below (g := gb115) (o := .cells #[.int .u8 a0_0, .string a0_1, .string a0_2, .slice (some ad116) l0_3.length c0_3, .bool a0_4, .bool a0_5, .slice A0_6 l0_6.length c0_6] 43 (0, 0)) (by (with_reducible repeat (first | refine blk_drewN ?_ _ | refine blk_drew ?_ | refine blk_alloc ?_ _)); refine blk_far ?_ NB115_117.out _; (with_reducible repeat (first | refine blk_drewN ?_ _ | refine blk_drew ?_ | refine blk_alloc ?_ _)); refine blk_far ?_ NB115_117.out _; (with_reducible repeat (first | refine blk_drewN ?_ _ | refine blk_drew ?_ | refine blk_alloc ?_ _)); refine blk_far ?_ NB115_117.out _; (with_reducible repeat (first | refine blk_drewN ?_ _ | refine blk_drew ?_ | refine blk_alloc ?_ _)); refine blk_far ?_ NB115_117.out _; (with_reducible repeat (first | refine blk_drewN ?_ _ | refine blk_drew ?_ | refine blk_alloc ?_ _)); refine blk_far ?_ NB115_117.out _; (with_reducible repeat (first | refine blk_drewN ?_ _ | refine blk_drew ?_ | refine blk_alloc ?_ _)); refine blk_far ?_ NB115_117.out _; (with_reducible repeat (first | refine blk_drewN ?_ _ | refine blk_drew ?_ | refine blk_alloc ?_ _)); refine blk_far ?_ NB115_117.out _; (with_reducible repeat (first | refine blk_drewN ?_ _ | refine blk_drew ?_ | refine blk_alloc ?_ _)); exact BK115.out) hb); have n1_ := Aside0.mk (blk_below (g := gb117) (o := .cells #[.int .u8 ((rd_T43 l0_3 x47_2).f0), .string ((rd_T43 l0_3 x47_2).f1), .string ((rd_T43 l0_3 x47_2).f2), .slice A116_3 ((rd_T43 l0_3 x47_2).f3).length c116_3, .bool ((rd_T43 l0_3 x47_2).f4), .bool ((rd_T43 l0_3 x47_2).f5), .slice A116_6 ((rd_T43 l0_3 x47_2).f6).length c116_6] 43 (0, 0)) (by (with_reducible repeat (first | refine blk_drewN ?_ _ | refine blk_drew ?_ | refine blk_alloc ?_ _)); refine blk_put (cs := #[.int .u8 ((rd_T43 l0_3 x47_2).f0), .string ((rd_T43 l0_3 x47_2).f1), .string ((rd_T43 l0_3 x47_2).f2), .slice A116_3 ((rd_T43 l0_3 x47_2).f3).length c116_3, .bool ((rd_T43 l0_3 x47_2).f4), .bool ((rd_T43 l0_3 x47_2).f5), .slice none 0 0]) ?_ 6 _ rfl; (with_reducible repeat (first | refine blk_drewN ?_ _ | refine blk_drew ?_ | refine blk_alloc ?_ _)); refine blk_put (cs := #[.int .u8 ((rd_T43 l0_3 x47_2).f0), .string ((rd_T43 l0_3 x47_2).f1), .string ((rd_T43 l0_3 x47_2).f2), .slice A116_3 ((rd_T43 l0_3 x47_2).f3).length c116_3, .bool ((rd_T43 l0_3 x47_2).f4), .bool false, .slice none 0 0]) ?_ 5 _ rfl; (with_reducible repeat (first | refine blk_drewN ?_ _ | refine blk_drew ?_ | refine blk_alloc ?_ _)); refine blk_put (cs := #[.int .u8 ((rd_T43 l0_3 x47_2).f0), .string ((rd_T43 l0_3 x47_2).f1), .string ((rd_T43 l0_3 x47_2).f2), .slice A116_3 ((rd_T43 l0_3 x47_2).f3).length c116_3, .bool false, .bool false, .slice none 0 0]) ?_ 4 _ rfl; (with_reducible repeat (first | refine blk_drewN ?_ _ | refine blk_drew ?_ | refine blk_alloc ?_ _)); refine blk_put (cs := #[.int .u8 ((rd_T43 l0_3 x47_2).f0), .string ((rd_T43 l0_3 x47_2).f1), .string ((rd_T43 l0_3 x47_2).f2), .slice none 0 0, .bool false, .bool false, .slice none 0 0]) ?_ 3 _ rfl; (with_reducible repeat (first | refine blk_drewN ?_ _ | refine blk_drew ?_ | refine blk_alloc ?_ _)); refine blk_put (cs := #[.int .u8 ((rd_T43 l0_3 x47_2).f0), .string ((rd_T43 l0_3 x47_2).f1), .string (⟨#[]⟩ : ByteArray), .slice none 0 0, .bool false, .bool false, .slice none 0 0]) ?_ 2 _ rfl; (with_reducible repeat (first | refine blk_drewN ?_ _ | refine blk_drew ?_ | refine blk_alloc ?_ _)); refine blk_put (cs := #[.int .u8 ((rd_T43 l0_3 x47_2).f0), .string (⟨#[]⟩ : ByteArray), .string (⟨#[]⟩ : ByteArray), .slice none 0 0, .bool false, .bool false, .slice none 0 0]) ?_ 1 _ rfl; (with_reducible repeat (first | refine blk_drewN ?_ _ | refine blk_drew ?_ | refine blk_alloc ?_ _)); refine blk_put (cs := #[.int .u8 0, .string (⟨#[]⟩ : ByteArray), .string (⟨#[]⟩ : ByteArray), .slice none 0 0, .bool false, .bool false, .slice none 0 0]) ?_ 0 _ rfl; (with_reducible repeat (first | refine blk_drewN ?_ _ | refine blk_drew ?_ | refine blk_alloc ?_ _)); exact BK117.out) hb); have n2_ := Aside0.mk (below_step (by repeat (first | (with_reducible first | exact HB.out | apply below_alloc | apply pw_below_drewN | apply below_drew1 | refine below_set ?_ GE115.out | refine below_set ?_ GE117.out) | exact HB.out)) hb); clear BK115; clear BK117; clear HB; have BK115 := n0_; have BK117 := n1_; have HB := n2_; clear n0_ n1_ n2_; (try clear hb); (try clear hb2); (try clear hk); (try clear hi)))
                    go_ret
                    exact ⟨by first | rfl | (simp [errW_none, errW_some] <;> rfl) | (simp [*, errW_none, errW_some] <;> rfl), by repeat (first | (with_reducible first | exact HB.out | apply below_alloc | apply pw_below_drewN | apply below_drew1 | refine below_set ?_ GE115.out | refine below_set ?_ GE117.out) | exact HB.out)⟩
                · rw [if_neg c46] at H
                  exact absurd H (by simp)
              · rw [if_neg c45] at H
                exact absurd H (by simp)
            · rw [if_neg c44] at H
              have c44b0 : decide (x47_2 < (l0_3.length : Int)) = false := decide_eq_false c44
              clear c44
              obtain rfl := Option.some.inj H
              go_wp2
              go_ret
              exact ⟨by first | rfl | (simp [errW_none, errW_some] <;> rfl) | (simp [*, errW_none, errW_some] <;> rfl), by repeat (first | (with_reducible first | exact HB.out | apply below_alloc | apply pw_below_drewN | apply below_drew1 | refine below_set ?_ GE115.out) | exact HB.out)⟩

end Go.Proofs.Ytcjdadfiedoflaa.PFnRawTells
