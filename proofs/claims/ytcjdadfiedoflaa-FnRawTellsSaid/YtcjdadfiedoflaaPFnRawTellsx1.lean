-- PRINTED BY print.sh 35421559b90ae4d0a3588c463048766b98c2df88dd9212a6774a882060cdf62d: not written by this session
import Derived.Test.YtcjdadfiedoflaaPFnRawTellsx0
namespace Go.Proofs.Ytcjdadfiedoflaa.PFnRawTells
open Go.RowKit Go.Proofs.YtcjdadfiedoflaaW.PrintWords Go.Proofs.YtcjdadfiedoflaaW.PrintLast Go.Proofs.YtcjdadfiedoflaaW.PrintMore
attribute [local go_sem] max2_int min2_int max_two min_two max_three min_three max_four min_four   -- for this text's walks alone
set_option linter.unusedVariables false
set_option linter.unusedSimpArgs false

/-! ### laws_zzFits12: function 10 -/
def laws_zzFits12.l0 : Nat → List ByteArray → Int → Int → Option (Bool)
  | 0, _, _, _ => none
  | k + 1, x8, x9, x10 => if x10 < x9 then (if 0 ≤ x10 then (if x10 < (x8.length : Int) then (if ((rdOf ByteArray.empty x8 x10).size : Int) > 2147483647 then (some false) else (laws_zzFits12.l0 k x8 x9 (wrap64 (x10 + 1)))) else (none)) else (none)) else (some true)
def laws_zzFits12.f (k : Nat) (l0 : List ByteArray) : Option (Bool) := if (l0.length : Int) > 2147483647 then (some false) else (laws_zzFits12.l0 k l0 (l0.length : Int) 0)
theorem laws_zzFits12.mono_l : ∀ k, (∀ y0 y1 y2, LeO (laws_zzFits12.l0 k y0 y1 y2) (laws_zzFits12.l0 (k + 1) y0 y1 y2))
  | 0 => fun _ _ _ r h => by simp [laws_zzFits12.l0] at h
  | k + 1 => by
    have ih0 := laws_zzFits12.mono_l k
    · intro y0 y1 y2
      unfold laws_zzFits12.l0
      repeat' first
      | (with_reducible exact ih0 _ _ _)
      | (with_reducible exact LeO.refl _)
      | (with_reducible exact LeO.none _)
      | (with_reducible refine LeO.ite ?_ ?_)
      | (with_reducible refine LeO.bind ?_ (fun _ => ?_))
      | exact ih0 _ _ _
      | exact LeO.none _
      | refine LeO.ite ?_ ?_
      | refine LeO.bind ?_ (fun _ => ?_)
theorem laws_zzFits12.mono : ∀ a0 k, LeO (laws_zzFits12.f k a0) (laws_zzFits12.f (k + 1) a0) := by
  intro a0 k
  have ih0 := laws_zzFits12.mono_l k
  unfold laws_zzFits12.f
  repeat' first
      | (with_reducible exact ih0 _ _ _)
      | (with_reducible exact LeO.refl _)
      | (with_reducible exact LeO.none _)
      | (with_reducible refine LeO.ite ?_ ?_)
      | (with_reducible refine LeO.bind ?_ (fun _ => ?_))
      | exact ih0 _ _ _
      | exact LeO.none _
      | refine LeO.ite ?_ ?_
      | refine LeO.bind ?_ (fun _ => ?_)
set_option maxHeartbeats 8000000 in
set_option maxRecDepth 100000 in
theorem laws_zzFits12.calls (k : Nat) (A0 : Option Addr) (c0 : Nat) (l0 : List ByteArray) (r : Bool) (w : World) (hr0 : Kd.C Kd.string w A0 l0.length l0) (hc0 : l0.length ≤ c0) (h : laws_zzFits12.f k l0 = some r) :
    Calls Try.prog 10 #[.slice A0 l0.length c0] w fun e w' => e = .returned (.bool r) ∧ Drawn0 w w' := by
  have HR0 := Aside0.mk hr0
  have HC0 := Aside0.mk hc0
  clear hr0 hc0
  have H : (if (l0.length : Int) > 2147483647 then (some false) else (laws_zzFits12.l0 k l0 (l0.length : Int) 0)) = some r := h
  clear h
  by_cases c2 : (l0.length : Int) > 2147483647
  · rw [if_pos c2] at H
    have c2b0 : decide (2147483647 < (l0.length : Int)) = true := decide_eq_true c2
    have c2b1 : decide (2147483647 < l0.length) = true := decide_eq_true (by omega)
    clear c2
    obtain rfl := Option.some.inj H
    go_enter Try.func10, Try.ntmps10
    go_wp2
    go_ret
    exact ⟨by first | rfl | (simp; done) | (simp [*]; done), by repeat (first | exact Drawn0.refl _ | apply Drawn0.step)⟩
  · rw [if_neg c2] at H
    have c2b0 : decide (2147483647 < (l0.length : Int)) = false := decide_eq_false c2
    have c2b1 : decide (2147483647 < l0.length) = false := decide_eq_false (by omega)
    clear c2
    have H' := Aside0.mk H
    clear H
    go_enter Try.func10, Try.ntmps10
    go_wp2
    go_loopg [10] k (fun kq v10 w' => ∃ (x10_1 : Int), v10 = .int .i64 x10_1 ∧ Aside0 (laws_zzFits12.l0 kq l0 (l0.length : Int) x10_1 = some r) ∧ Aside0 (kq ≤ k) ∧ Drawn0 w w')
    case atStart => exact ⟨(0), (by first | rfl | (simp; done) | (simp [*]; done)), H', ⟨Nat.le_refl _⟩, by repeat (first | exact Drawn0.refl _ | apply Drawn0.step)⟩
    case round =>
      clear H'
      try clear c1
      try clear c2
      try clear c2b0
      try clear c2b1
      try clear p2
      obtain ⟨x10_1, rfl, HA, HK1, ⟨m1, rfl⟩⟩ := hrel
      cases gk with
      | zero => exact absurd HA.out (by simp [laws_zzFits12.l0])
      | succ k1 =>
        have H := HA.out
        clear HA
        simp only [laws_zzFits12.l0] at H
        by_cases c3 : x10_1 < (l0.length : Int)
        · rw [if_pos c3] at H
          have c3b0 : decide (x10_1 < (l0.length : Int)) = true := decide_eq_true c3
          clear c3
          by_cases c4 : 0 ≤ x10_1
          · rw [if_pos c4] at H
            have c4b0 : decide (0 ≤ x10_1) = true := decide_eq_true c4
            clear c4
            by_cases c5 : x10_1 < (l0.length : Int)
            · rw [if_pos c5] at H
              have c5b0 : decide (x10_1 < (l0.length : Int)) = true := decide_eq_true c5
              clear c5
              by_cases c6 : ((rdOf ByteArray.empty l0 x10_1).size : Int) > 2147483647
              · rw [if_pos c6] at H
                have c6b0 : decide (2147483647 < ((rdOf ByteArray.empty l0 x10_1).size : Int)) = true := decide_eq_true c6
                have c6b1 : decide (2147483647 < (rdOf ByteArray.empty l0 x10_1).size) = true := decide_eq_true (by omega)
                clear c6
                obtain rfl := Option.some.inj H
                have p101 : 0 ≤ (x10_1 : Int) := of_decide_eq_true (by first | (with_reducible assumption) | assumption)
                have q101 : x10_1 < (l0.length : Int) := of_decide_eq_true (by first | (with_reducible assumption) | assumption)
                obtain ⟨ad101, e101, hx101_0⟩ := Kd.at_string HR0.out x10_1 p101 q101
                cases e101
                replace p101 := eq_true p101
                replace q101 := eq_true q101
                go_wp2
                go_ret
                exact ⟨by first | rfl | (simp; done) | (simp [*]; done), by repeat (first | exact Drawn0.refl _ | apply Drawn0.step)⟩
              · rw [if_neg c6] at H
                have c6b0 : decide (2147483647 < ((rdOf ByteArray.empty l0 x10_1).size : Int)) = false := decide_eq_false c6
                have c6b1 : decide (2147483647 < (rdOf ByteArray.empty l0 x10_1).size) = false := decide_eq_false (by omega)
                clear c6
                have H' := Aside0.mk H
                clear H
                have p101 : 0 ≤ (x10_1 : Int) := of_decide_eq_true (by first | (with_reducible assumption) | assumption)
                have q101 : x10_1 < (l0.length : Int) := of_decide_eq_true (by first | (with_reducible assumption) | assumption)
                obtain ⟨ad101, e101, hx101_0⟩ := Kd.at_string HR0.out x10_1 p101 q101
                cases e101
                replace p101 := eq_true p101
                replace q101 := eq_true q101
                go_wp2
                go_roundg k1
                case measure => have := HK1.out; omega
                case rel => exact ⟨(wrap64 (x10_1 + 1)), (by first | rfl | (simp; done) | (simp [*]; done)), H', ⟨by have := HK1.out; omega⟩, by repeat (first | exact Drawn0.refl _ | apply Drawn0.step)⟩
            · rw [if_neg c5] at H
              exact absurd H (by simp)
          · rw [if_neg c4] at H
            exact absurd H (by simp)
        · rw [if_neg c3] at H
          have c3b0 : decide (x10_1 < (l0.length : Int)) = false := decide_eq_false c3
          clear c3
          obtain rfl := Option.some.inj H
          go_wp2
          go_ret
          exact ⟨by first | rfl | (simp; done) | (simp [*]; done), by repeat (first | exact Drawn0.refl _ | apply Drawn0.step)⟩

/-! ### laws_zzFits16: function 18 -/
def laws_zzFits16.f (k : Nat) (a0_0 : Int) (a0_1 : ByteArray) (a0_2 : ByteArray) (l0_3 : List (S43)) (a0_4 : Bool) (a0_5 : Bool) (l0_6 : List ByteArray) : Option (Bool) := if (a0_1.size : Int) > 2147483647 then (some false) else (if (a0_2.size : Int) > 2147483647 then (some false) else (if (l0_3.length : Int) > 2147483647 then (some false) else ((laws_zzFits12.f k l0_6).bind fun t103 => (if t103 = true then (some true) else (some false)))))
theorem laws_zzFits16.mono : ∀ a0 a1 a2 a3 a4 a5 a6 k, LeO (laws_zzFits16.f k a0 a1 a2 a3 a4 a5 a6) (laws_zzFits16.f (k + 1) a0 a1 a2 a3 a4 a5 a6) := by
  intro a0 a1 a2 a3 a4 a5 a6 k
  unfold laws_zzFits16.f
  repeat' first
      | (with_reducible exact laws_zzFits12.mono _ _)
      | (with_reducible exact LeO.refl _)
      | (with_reducible exact LeO.none _)
      | (with_reducible refine LeO.ite ?_ ?_)
      | (with_reducible refine LeO.bind ?_ (fun _ => ?_))
      | exact laws_zzFits12.mono _ _
      | exact LeO.none _
      | refine LeO.ite ?_ ?_
      | refine LeO.bind ?_ (fun _ => ?_)
set_option maxHeartbeats 8000000 in
set_option maxRecDepth 100000 in
theorem laws_zzFits16.calls (k : Nat) (a0_0 : Int) (a0_1 : ByteArray) (a0_2 : ByteArray) (A0_3 : Option Addr) (c0_3 : Nat) (l0_3 : List (S43)) (a0_4 : Bool) (a0_5 : Bool) (A0_6 : Option Addr) (c0_6 : Nat) (l0_6 : List ByteArray) (r : Bool) (w : World) (hr0_3 : Kd.C k43 w A0_3 l0_3.length l0_3) (hc0_3 : l0_3.length ≤ c0_3) (hr0_6 : Kd.C Kd.string w A0_6 l0_6.length l0_6) (hc0_6 : l0_6.length ≤ c0_6) (h : laws_zzFits16.f k a0_0 a0_1 a0_2 l0_3 a0_4 a0_5 l0_6 = some r) :
    Calls Try.prog 18 #[.agg #[.int .u8 a0_0, .string a0_1, .string a0_2, .slice A0_3 l0_3.length c0_3, .bool a0_4, .bool a0_5, .slice A0_6 l0_6.length c0_6]] w fun e w' => e = .returned (.bool r) ∧ Below w.heap.size w w' := by
  have hu43 := Try.underlying43
  have HR0_3 := Aside0.mk hr0_3
  have HC0_3 := Aside0.mk hc0_3
  clear hr0_3 hc0_3
  have HR0_6 := Aside0.mk hr0_6
  have HC0_6 := Aside0.mk hc0_6
  clear hr0_6 hc0_6
  have HB := Aside0.mk (Below.refl w.heap.size w)
  have H : (if (a0_1.size : Int) > 2147483647 then (some false) else (if (a0_2.size : Int) > 2147483647 then (some false) else (if (l0_3.length : Int) > 2147483647 then (some false) else ((laws_zzFits12.f k l0_6).bind fun t103 => (if t103 = true then (some true) else (some false)))))) = some r := h
  clear h
  by_cases c2 : (a0_1.size : Int) > 2147483647
  · rw [if_pos c2] at H
    have c2b0 : decide (2147483647 < (a0_1.size : Int)) = true := decide_eq_true c2
    have c2b1 : decide (2147483647 < a0_1.size) = true := decide_eq_true (by omega)
    clear c2
    obtain rfl := Option.some.inj H
    go_enter Try.func18, Try.ntmps18
    go_wp2_with (first | ((with_reducible refine gate_dst (N := 1) rfl ?_); refine box_event ?hg (N := 1) ?hd (cs := #[.int .u8 a0_0, .string a0_1, .string a0_2, .slice A0_3 l0_3.length c0_3, .bool a0_4, .bool a0_5, .slice A0_6 l0_6.length c0_6]) (t := 43) ?hr ?_; (case hd => rfl); (case hg => rfl); (case hr => first | (go_simp; done) | (go_simp; rfl)); intro gb102 hg w3 hbox hb; have n0_ := Aside0.mk (below_step (by repeat (first | (with_reducible first | exact HB.out | apply below_alloc | apply pw_below_drewN | apply below_drew1) | exact HB.out)) hb); have n1_ := Aside0.mk (hbox); have n2_ := Aside0.mk ((by rw [hg]; exact (below_size (by repeat (first | (with_reducible first | exact HB.out | apply below_alloc | apply pw_below_drewN | apply below_drew1) | exact HB.out))) : w.heap.size ≤ gb102)); have n3_ := Aside0.mk ((by rw [hg]; exact (below_size (by repeat (first | (with_reducible first | exact HB.out | apply below_alloc | apply pw_below_drewN | apply below_drew1) | exact HB.out))) : w.heap.size ≤ gb102)); clear HB; have HB := n0_; have BK102 := n1_; have GW102 := n2_; have GE102 := n3_; clear n0_ n1_ n2_ n3_; clear hb hbox hg; have hcz4_0 : w3.cell? ⟨gb102, 0, none⟩ = some (.int .u8 a0_0) := (blk_cell BK102.out 0).trans rfl; have hcz4_1 : w3.cell? ⟨gb102, 1, none⟩ = some (.string a0_1) := (blk_cell BK102.out 1).trans rfl; have hcz4_2 : w3.cell? ⟨gb102, 2, none⟩ = some (.string a0_2) := (blk_cell BK102.out 2).trans rfl; have hcz4_3 : w3.cell? ⟨gb102, 3, none⟩ = some (.slice A0_3 l0_3.length c0_3) := (blk_cell BK102.out 3).trans rfl; have hcz4_4 : w3.cell? ⟨gb102, 4, none⟩ = some (.bool a0_4) := (blk_cell BK102.out 4).trans rfl; have hcz4_5 : w3.cell? ⟨gb102, 5, none⟩ = some (.bool a0_5) := (blk_cell BK102.out 5).trans rfl; have hcz4_6 : w3.cell? ⟨gb102, 6, none⟩ = some (.slice A0_6 l0_6.length c0_6) := (blk_cell BK102.out 6).trans rfl; have hfz4_0 := blk_frozen BK102.out 0; have hfz4_1 := blk_frozen BK102.out 1; have hfz4_2 := blk_frozen BK102.out 2; have hfz4_3 := blk_frozen BK102.out 3; have hfz4_4 := blk_frozen BK102.out 4; have hfz4_5 := blk_frozen BK102.out 5; have hfz4_6 := blk_frozen BK102.out 6))
    go_ret
    exact ⟨by first | rfl | (simp [errW_none, errW_some] <;> rfl) | (simp [*, errW_none, errW_some] <;> rfl), by repeat (first | (with_reducible first | exact HB.out | apply below_alloc | apply pw_below_drewN | apply below_drew1 | refine below_set ?_ GE102.out) | exact HB.out)⟩
  · rw [if_neg c2] at H
    have c2b0 : decide (2147483647 < (a0_1.size : Int)) = false := decide_eq_false c2
    have c2b1 : decide (2147483647 < a0_1.size) = false := decide_eq_false (by omega)
    clear c2
    by_cases c5 : (a0_2.size : Int) > 2147483647
    · rw [if_pos c5] at H
      have c5b0 : decide (2147483647 < (a0_2.size : Int)) = true := decide_eq_true c5
      have c5b1 : decide (2147483647 < a0_2.size) = true := decide_eq_true (by omega)
      clear c5
      obtain rfl := Option.some.inj H
      go_enter Try.func18, Try.ntmps18
      go_wp2_with (first | ((with_reducible refine gate_dst (N := 1) rfl ?_); refine box_event ?hg (N := 1) ?hd (cs := #[.int .u8 a0_0, .string a0_1, .string a0_2, .slice A0_3 l0_3.length c0_3, .bool a0_4, .bool a0_5, .slice A0_6 l0_6.length c0_6]) (t := 43) ?hr ?_; (case hd => rfl); (case hg => rfl); (case hr => first | (go_simp; done) | (go_simp; rfl)); intro gb102 hg w6 hbox hb; have n0_ := Aside0.mk (below_step (by repeat (first | (with_reducible first | exact HB.out | apply below_alloc | apply pw_below_drewN | apply below_drew1) | exact HB.out)) hb); have n1_ := Aside0.mk (hbox); have n2_ := Aside0.mk ((by rw [hg]; exact (below_size (by repeat (first | (with_reducible first | exact HB.out | apply below_alloc | apply pw_below_drewN | apply below_drew1) | exact HB.out))) : w.heap.size ≤ gb102)); have n3_ := Aside0.mk ((by rw [hg]; exact (below_size (by repeat (first | (with_reducible first | exact HB.out | apply below_alloc | apply pw_below_drewN | apply below_drew1) | exact HB.out))) : w.heap.size ≤ gb102)); clear HB; have HB := n0_; have BK102 := n1_; have GW102 := n2_; have GE102 := n3_; clear n0_ n1_ n2_ n3_; clear hb hbox hg; have hcz7_0 : w6.cell? ⟨gb102, 0, none⟩ = some (.int .u8 a0_0) := (blk_cell BK102.out 0).trans rfl; have hcz7_1 : w6.cell? ⟨gb102, 1, none⟩ = some (.string a0_1) := (blk_cell BK102.out 1).trans rfl; have hcz7_2 : w6.cell? ⟨gb102, 2, none⟩ = some (.string a0_2) := (blk_cell BK102.out 2).trans rfl; have hcz7_3 : w6.cell? ⟨gb102, 3, none⟩ = some (.slice A0_3 l0_3.length c0_3) := (blk_cell BK102.out 3).trans rfl; have hcz7_4 : w6.cell? ⟨gb102, 4, none⟩ = some (.bool a0_4) := (blk_cell BK102.out 4).trans rfl; have hcz7_5 : w6.cell? ⟨gb102, 5, none⟩ = some (.bool a0_5) := (blk_cell BK102.out 5).trans rfl; have hcz7_6 : w6.cell? ⟨gb102, 6, none⟩ = some (.slice A0_6 l0_6.length c0_6) := (blk_cell BK102.out 6).trans rfl; have hfz7_0 := blk_frozen BK102.out 0; have hfz7_1 := blk_frozen BK102.out 1; have hfz7_2 := blk_frozen BK102.out 2; have hfz7_3 := blk_frozen BK102.out 3; have hfz7_4 := blk_frozen BK102.out 4; have hfz7_5 := blk_frozen BK102.out 5; have hfz7_6 := blk_frozen BK102.out 6))
      go_ret
      exact ⟨by first | rfl | (simp [errW_none, errW_some] <;> rfl) | (simp [*, errW_none, errW_some] <;> rfl), by repeat (first | (with_reducible first | exact HB.out | apply below_alloc | apply pw_below_drewN | apply below_drew1 | refine below_set ?_ GE102.out) | exact HB.out)⟩
    · rw [if_neg c5] at H
      have c5b0 : decide (2147483647 < (a0_2.size : Int)) = false := decide_eq_false c5
      have c5b1 : decide (2147483647 < a0_2.size) = false := decide_eq_false (by omega)
      clear c5
      by_cases c8 : (l0_3.length : Int) > 2147483647
      · rw [if_pos c8] at H
        have c8b0 : decide (2147483647 < (l0_3.length : Int)) = true := decide_eq_true c8
        have c8b1 : decide (2147483647 < l0_3.length) = true := decide_eq_true (by omega)
        clear c8
        obtain rfl := Option.some.inj H
        go_enter Try.func18, Try.ntmps18
        go_wp2_with (first | ((with_reducible refine gate_dst (N := 1) rfl ?_); refine box_event ?hg (N := 1) ?hd (cs := #[.int .u8 a0_0, .string a0_1, .string a0_2, .slice A0_3 l0_3.length c0_3, .bool a0_4, .bool a0_5, .slice A0_6 l0_6.length c0_6]) (t := 43) ?hr ?_; (case hd => rfl); (case hg => rfl); (case hr => first | (go_simp; done) | (go_simp; rfl)); intro gb102 hg w9 hbox hb; have n0_ := Aside0.mk (below_step (by repeat (first | (with_reducible first | exact HB.out | apply below_alloc | apply pw_below_drewN | apply below_drew1) | exact HB.out)) hb); have n1_ := Aside0.mk (hbox); have n2_ := Aside0.mk ((by rw [hg]; exact (below_size (by repeat (first | (with_reducible first | exact HB.out | apply below_alloc | apply pw_below_drewN | apply below_drew1) | exact HB.out))) : w.heap.size ≤ gb102)); have n3_ := Aside0.mk ((by rw [hg]; exact (below_size (by repeat (first | (with_reducible first | exact HB.out | apply below_alloc | apply pw_below_drewN | apply below_drew1) | exact HB.out))) : w.heap.size ≤ gb102)); clear HB; have HB := n0_; have BK102 := n1_; have GW102 := n2_; have GE102 := n3_; clear n0_ n1_ n2_ n3_; clear hb hbox hg; have hcz10_0 : w9.cell? ⟨gb102, 0, none⟩ = some (.int .u8 a0_0) := (blk_cell BK102.out 0).trans rfl; have hcz10_1 : w9.cell? ⟨gb102, 1, none⟩ = some (.string a0_1) := (blk_cell BK102.out 1).trans rfl; have hcz10_2 : w9.cell? ⟨gb102, 2, none⟩ = some (.string a0_2) := (blk_cell BK102.out 2).trans rfl; have hcz10_3 : w9.cell? ⟨gb102, 3, none⟩ = some (.slice A0_3 l0_3.length c0_3) := (blk_cell BK102.out 3).trans rfl; have hcz10_4 : w9.cell? ⟨gb102, 4, none⟩ = some (.bool a0_4) := (blk_cell BK102.out 4).trans rfl; have hcz10_5 : w9.cell? ⟨gb102, 5, none⟩ = some (.bool a0_5) := (blk_cell BK102.out 5).trans rfl; have hcz10_6 : w9.cell? ⟨gb102, 6, none⟩ = some (.slice A0_6 l0_6.length c0_6) := (blk_cell BK102.out 6).trans rfl; have hfz10_0 := blk_frozen BK102.out 0; have hfz10_1 := blk_frozen BK102.out 1; have hfz10_2 := blk_frozen BK102.out 2; have hfz10_3 := blk_frozen BK102.out 3; have hfz10_4 := blk_frozen BK102.out 4; have hfz10_5 := blk_frozen BK102.out 5; have hfz10_6 := blk_frozen BK102.out 6))
        go_ret
        exact ⟨by first | rfl | (simp [errW_none, errW_some] <;> rfl) | (simp [*, errW_none, errW_some] <;> rfl), by repeat (first | (with_reducible first | exact HB.out | apply below_alloc | apply pw_below_drewN | apply below_drew1 | refine below_set ?_ GE102.out) | exact HB.out)⟩
      · rw [if_neg c8] at H
        have c8b0 : decide (2147483647 < (l0_3.length : Int)) = false := decide_eq_false c8
        have c8b1 : decide (2147483647 < l0_3.length) = false := decide_eq_false (by omega)
        clear c8
        replace H := Option.bind_eq_some_iff.mp H
        obtain ⟨t103, A110, H⟩ := H
        replace H : (if t103 = true then (some true) else (some false)) = some r := H
        have A11 := Aside0.mk A110
        clear A110
        by_cases c12 : t103 = true
        · subst c12
          have H1 : (some true) = some r := by rw [if_pos rfl] at H; exact H
          clear H
          have H := H1
          clear H1
          obtain rfl := Option.some.inj H
          go_enter Try.func18, Try.ntmps18
          go_wp2_with (first | ((with_reducible refine gate_dst (N := 1) rfl ?_); refine box_event ?hg (N := 1) ?hd (cs := #[.int .u8 a0_0, .string a0_1, .string a0_2, .slice A0_3 l0_3.length c0_3, .bool a0_4, .bool a0_5, .slice A0_6 l0_6.length c0_6]) (t := 43) ?hr ?_; (case hd => rfl); (case hg => rfl); (case hr => first | (go_simp; done) | (go_simp; rfl)); intro gb102 hg w13 hbox hb; have n0_ := Aside0.mk (below_step (by repeat (first | (with_reducible first | exact HB.out | apply below_alloc | apply pw_below_drewN | apply below_drew1) | exact HB.out)) hb); have n1_ := Aside0.mk (hbox); have n2_ := Aside0.mk ((by rw [hg]; exact (below_size (by repeat (first | (with_reducible first | exact HB.out | apply below_alloc | apply pw_below_drewN | apply below_drew1) | exact HB.out))) : w.heap.size ≤ gb102)); have n3_ := Aside0.mk ((by rw [hg]; exact (below_size (by repeat (first | (with_reducible first | exact HB.out | apply below_alloc | apply pw_below_drewN | apply below_drew1) | exact HB.out))) : w.heap.size ≤ gb102)); clear HB; have HB := n0_; have BK102 := n1_; have GW102 := n2_; have GE102 := n3_; clear n0_ n1_ n2_ n3_; clear hb hbox hg; have hcz14_0 : w13.cell? ⟨gb102, 0, none⟩ = some (.int .u8 a0_0) := (blk_cell BK102.out 0).trans rfl; have hcz14_1 : w13.cell? ⟨gb102, 1, none⟩ = some (.string a0_1) := (blk_cell BK102.out 1).trans rfl; have hcz14_2 : w13.cell? ⟨gb102, 2, none⟩ = some (.string a0_2) := (blk_cell BK102.out 2).trans rfl; have hcz14_3 : w13.cell? ⟨gb102, 3, none⟩ = some (.slice A0_3 l0_3.length c0_3) := (blk_cell BK102.out 3).trans rfl; have hcz14_4 : w13.cell? ⟨gb102, 4, none⟩ = some (.bool a0_4) := (blk_cell BK102.out 4).trans rfl; have hcz14_5 : w13.cell? ⟨gb102, 5, none⟩ = some (.bool a0_5) := (blk_cell BK102.out 5).trans rfl; have hcz14_6 : w13.cell? ⟨gb102, 6, none⟩ = some (.slice A0_6 l0_6.length c0_6) := (blk_cell BK102.out 6).trans rfl; have hfz14_0 := blk_frozen BK102.out 0; have hfz14_1 := blk_frozen BK102.out 1; have hfz14_2 := blk_frozen BK102.out 2; have hfz14_3 := blk_frozen BK102.out 3; have hfz14_4 := blk_frozen BK102.out 4; have hfz14_5 := blk_frozen BK102.out 5; have hfz14_6 := blk_frozen BK102.out 6) | ((with_reducible refine gate_callee (f := 10) rfl ?_); refine goesL_ (some 17) rfl rfl Try.func10 (by kernel_rfl) rfl #[.slice A0_6 l0_6.length c0_6] rfl (by (try simp only [List.map_toArray, List.map_cons, List.map_nil]); first | done | rfl | (simp only [List.length_drop, List.length_take]; rfl)) ?_; (with_reducible refine (laws_zzFits12.calls k _ _ l0_6 true _ ?side1 ?side2 A11.out).mono ?_); (case side1 => repeat (first | exact (Kd.C_below HR0_6.out HB.out) | (with_reducible refine Kd.C_alloc ?_ _) | (with_reducible refine Kd.C_drewN ?_ _) | (with_reducible refine Kd.C_drew ?_))); (case side2 => exact HC0_6.out); rintro e w' ⟨rfl, ⟨nd, rfl⟩⟩; refine ⟨_, rfl, ?_⟩))
          go_ret
          exact ⟨by first | rfl | (simp [errW_none, errW_some] <;> rfl) | (simp [*, errW_none, errW_some] <;> rfl), by repeat (first | (with_reducible first | exact HB.out | apply below_alloc | apply pw_below_drewN | apply below_drew1 | refine below_set ?_ GE102.out) | exact HB.out)⟩
        · replace c12 := Bool.eq_false_iff.mpr c12
          subst c12
          have H1 : (some false) = some r := by rw [if_neg (show ¬ (false = true) by decide)] at H; exact H
          clear H
          have H := H1
          clear H1
          obtain rfl := Option.some.inj H
          go_enter Try.func18, Try.ntmps18
          go_wp2_with (first | ((with_reducible refine gate_dst (N := 1) rfl ?_); refine box_event ?hg (N := 1) ?hd (cs := #[.int .u8 a0_0, .string a0_1, .string a0_2, .slice A0_3 l0_3.length c0_3, .bool a0_4, .bool a0_5, .slice A0_6 l0_6.length c0_6]) (t := 43) ?hr ?_; (case hd => rfl); (case hg => rfl); (case hr => first | (go_simp; done) | (go_simp; rfl)); intro gb102 hg w15 hbox hb; have n0_ := Aside0.mk (below_step (by repeat (first | (with_reducible first | exact HB.out | apply below_alloc | apply pw_below_drewN | apply below_drew1) | exact HB.out)) hb); have n1_ := Aside0.mk (hbox); have n2_ := Aside0.mk ((by rw [hg]; exact (below_size (by repeat (first | (with_reducible first | exact HB.out | apply below_alloc | apply pw_below_drewN | apply below_drew1) | exact HB.out))) : w.heap.size ≤ gb102)); have n3_ := Aside0.mk ((by rw [hg]; exact (below_size (by repeat (first | (with_reducible first | exact HB.out | apply below_alloc | apply pw_below_drewN | apply below_drew1) | exact HB.out))) : w.heap.size ≤ gb102)); clear HB; have HB := n0_; have BK102 := n1_; have GW102 := n2_; have GE102 := n3_; clear n0_ n1_ n2_ n3_; clear hb hbox hg; have hcz16_0 : w15.cell? ⟨gb102, 0, none⟩ = some (.int .u8 a0_0) := (blk_cell BK102.out 0).trans rfl; have hcz16_1 : w15.cell? ⟨gb102, 1, none⟩ = some (.string a0_1) := (blk_cell BK102.out 1).trans rfl; have hcz16_2 : w15.cell? ⟨gb102, 2, none⟩ = some (.string a0_2) := (blk_cell BK102.out 2).trans rfl; have hcz16_3 : w15.cell? ⟨gb102, 3, none⟩ = some (.slice A0_3 l0_3.length c0_3) := (blk_cell BK102.out 3).trans rfl; have hcz16_4 : w15.cell? ⟨gb102, 4, none⟩ = some (.bool a0_4) := (blk_cell BK102.out 4).trans rfl; have hcz16_5 : w15.cell? ⟨gb102, 5, none⟩ = some (.bool a0_5) := (blk_cell BK102.out 5).trans rfl; have hcz16_6 : w15.cell? ⟨gb102, 6, none⟩ = some (.slice A0_6 l0_6.length c0_6) := (blk_cell BK102.out 6).trans rfl; have hfz16_0 := blk_frozen BK102.out 0; have hfz16_1 := blk_frozen BK102.out 1; have hfz16_2 := blk_frozen BK102.out 2; have hfz16_3 := blk_frozen BK102.out 3; have hfz16_4 := blk_frozen BK102.out 4; have hfz16_5 := blk_frozen BK102.out 5; have hfz16_6 := blk_frozen BK102.out 6) | ((with_reducible refine gate_callee (f := 10) rfl ?_); refine goesL_ (some 17) rfl rfl Try.func10 (by kernel_rfl) rfl #[.slice A0_6 l0_6.length c0_6] rfl (by (try simp only [List.map_toArray, List.map_cons, List.map_nil]); first | done | rfl | (simp only [List.length_drop, List.length_take]; rfl)) ?_; (with_reducible refine (laws_zzFits12.calls k _ _ l0_6 false _ ?side1 ?side2 A11.out).mono ?_); (case side1 => repeat (first | exact (Kd.C_below HR0_6.out HB.out) | (with_reducible refine Kd.C_alloc ?_ _) | (with_reducible refine Kd.C_drewN ?_ _) | (with_reducible refine Kd.C_drew ?_))); (case side2 => exact HC0_6.out); rintro e w' ⟨rfl, ⟨nd, rfl⟩⟩; refine ⟨_, rfl, ?_⟩))
          go_ret
          exact ⟨by first | rfl | (simp [errW_none, errW_some] <;> rfl) | (simp [*, errW_none, errW_some] <;> rfl), by repeat (first | (with_reducible first | exact HB.out | apply below_alloc | apply pw_below_drewN | apply below_drew1 | refine below_set ?_ GE102.out) | exact HB.out)⟩

/-! ### spec_Line: function 20 -/
def spec_Line.f (a0 : Int) : Option (Bool) := if a0 = 43 then (some true) else (if a0 = 45 then (some true) else (if a0 = 58 then (some true) else (if a0 = 95 then (some true) else (if a0 = 44 then (some true) else (if a0 = 35 then (some true) else (if a0 = 40 then (some true) else (some false)))))))
set_option maxHeartbeats 8000000 in
set_option maxRecDepth 100000 in
theorem spec_Line.calls (a0 : Int) (r : Bool) (w : World) (h : spec_Line.f a0 = some r) :
    Calls Try.prog 20 #[.int .u8 a0] w fun e w' => e = .returned (.bool r) ∧ Drawn0 w w' := by
  have H : (if a0 = 43 then (some true) else (if a0 = 45 then (some true) else (if a0 = 58 then (some true) else (if a0 = 95 then (some true) else (if a0 = 44 then (some true) else (if a0 = 35 then (some true) else (if a0 = 40 then (some true) else (some false)))))))) = some r := h
  clear h
  by_cases c2 : a0 = 43
  · rw [if_pos c2] at H
    have c2b0 : (a0 == 43) = true := beq_iff_eq.mpr c2
    have c2b1 : (a0 != 43) = false := bne_eq_false_iff_eq.mpr c2
    clear c2
    obtain rfl := Option.some.inj H
    go_enter Try.func20, Try.ntmps20
    go_wp2
    go_ret
    exact ⟨by first | rfl | (simp; done) | (simp [*]; done), by repeat (first | exact Drawn0.refl _ | apply Drawn0.step)⟩
  · rw [if_neg c2] at H
    have c2b0 : (a0 == 43) = false := beq_eq_false_iff_ne.mpr c2
    have c2b1 : (a0 != 43) = true := bne_iff_ne.mpr c2
    by_cases c3 : a0 = 45
    · rw [if_pos c3] at H
      have c3b0 : (a0 == 45) = true := beq_iff_eq.mpr c3
      have c3b1 : (a0 != 45) = false := bne_eq_false_iff_eq.mpr c3
      clear c3
      obtain rfl := Option.some.inj H
      go_enter Try.func20, Try.ntmps20
      go_wp2
      go_ret
      exact ⟨by first | rfl | (simp; done) | (simp [*]; done), by repeat (first | exact Drawn0.refl _ | apply Drawn0.step)⟩
    · rw [if_neg c3] at H
      have c3b0 : (a0 == 45) = false := beq_eq_false_iff_ne.mpr c3
      have c3b1 : (a0 != 45) = true := bne_iff_ne.mpr c3
      by_cases c4 : a0 = 58
      · rw [if_pos c4] at H
        have c4b0 : (a0 == 58) = true := beq_iff_eq.mpr c4
        have c4b1 : (a0 != 58) = false := bne_eq_false_iff_eq.mpr c4
        clear c4
        obtain rfl := Option.some.inj H
        go_enter Try.func20, Try.ntmps20
        go_wp2
        go_ret
        exact ⟨by first | rfl | (simp; done) | (simp [*]; done), by repeat (first | exact Drawn0.refl _ | apply Drawn0.step)⟩
      · rw [if_neg c4] at H
        have c4b0 : (a0 == 58) = false := beq_eq_false_iff_ne.mpr c4
        have c4b1 : (a0 != 58) = true := bne_iff_ne.mpr c4
        by_cases c5 : a0 = 95
        · rw [if_pos c5] at H
          have c5b0 : (a0 == 95) = true := beq_iff_eq.mpr c5
          have c5b1 : (a0 != 95) = false := bne_eq_false_iff_eq.mpr c5
          clear c5
          obtain rfl := Option.some.inj H
          go_enter Try.func20, Try.ntmps20
          go_wp2
          go_ret
          exact ⟨by first | rfl | (simp; done) | (simp [*]; done), by repeat (first | exact Drawn0.refl _ | apply Drawn0.step)⟩
        · rw [if_neg c5] at H
          have c5b0 : (a0 == 95) = false := beq_eq_false_iff_ne.mpr c5
          have c5b1 : (a0 != 95) = true := bne_iff_ne.mpr c5
          by_cases c6 : a0 = 44
          · rw [if_pos c6] at H
            have c6b0 : (a0 == 44) = true := beq_iff_eq.mpr c6
            have c6b1 : (a0 != 44) = false := bne_eq_false_iff_eq.mpr c6
            clear c6
            obtain rfl := Option.some.inj H
            go_enter Try.func20, Try.ntmps20
            go_wp2
            go_ret
            exact ⟨by first | rfl | (simp; done) | (simp [*]; done), by repeat (first | exact Drawn0.refl _ | apply Drawn0.step)⟩
          · rw [if_neg c6] at H
            have c6b0 : (a0 == 44) = false := beq_eq_false_iff_ne.mpr c6
            have c6b1 : (a0 != 44) = true := bne_iff_ne.mpr c6
            by_cases c7 : a0 = 35
            · rw [if_pos c7] at H
              have c7b0 : (a0 == 35) = true := beq_iff_eq.mpr c7
              have c7b1 : (a0 != 35) = false := bne_eq_false_iff_eq.mpr c7
              clear c7
              obtain rfl := Option.some.inj H
              go_enter Try.func20, Try.ntmps20
              go_wp2
              go_ret
              exact ⟨by first | rfl | (simp; done) | (simp [*]; done), by repeat (first | exact Drawn0.refl _ | apply Drawn0.step)⟩
            · rw [if_neg c7] at H
              have c7b0 : (a0 == 35) = false := beq_eq_false_iff_ne.mpr c7
              have c7b1 : (a0 != 35) = true := bne_iff_ne.mpr c7
              by_cases c8 : a0 = 40
              · rw [if_pos c8] at H
                have c8b0 : (a0 == 40) = true := beq_iff_eq.mpr c8
                have c8b1 : (a0 != 40) = false := bne_eq_false_iff_eq.mpr c8
                clear c8
                obtain rfl := Option.some.inj H
                go_enter Try.func20, Try.ntmps20
                go_wp2
                go_ret
                exact ⟨by first | rfl | (simp; done) | (simp [*]; done), by repeat (first | exact Drawn0.refl _ | apply Drawn0.step)⟩
              · rw [if_neg c8] at H
                have c8b0 : (a0 == 40) = false := beq_eq_false_iff_ne.mpr c8
                have c8b1 : (a0 != 40) = true := bne_iff_ne.mpr c8
                obtain rfl := Option.some.inj H
                go_enter Try.func20, Try.ntmps20
                go_wp2
                go_ret
                exact ⟨by first | rfl | (simp; done) | (simp [*]; done), by repeat (first | exact Drawn0.refl _ | apply Drawn0.step)⟩

/-! ### spec_Many: function 23 -/
def spec_Many.j0 : Nat → Int → Bool → Option (Int × Bool)
  | 0, _, _ => none
  | k + 1, x4, x5 => if x5 = true then (some (1, true)) else (if x4 = 37 then (some (2, true)) else (if x4 = 124 then (some (2, true)) else (some (0, false))))
def spec_Many.f (k : Nat) (a0 : Int) : Option (Int × Bool) := if a0 = 42 then (spec_Many.j0 k a0 (a0 == 42)) else (if a0 = 126 then (spec_Many.j0 k a0 (a0 == 126)) else (spec_Many.j0 k a0 (a0 == 62)))
theorem spec_Many.mono_l : ∀ k, (∀ y0 y1, LeO (spec_Many.j0 k y0 y1) (spec_Many.j0 (k + 1) y0 y1))
  | 0 => fun _ _ r h => by simp [spec_Many.j0] at h
  | k + 1 => by
    have ih0 := spec_Many.mono_l k
    · intro y0 y1
      unfold spec_Many.j0
      repeat' first
      | (with_reducible exact ih0 _ _)
      | (with_reducible exact LeO.refl _)
      | (with_reducible exact LeO.none _)
      | (with_reducible refine LeO.ite ?_ ?_)
      | (with_reducible refine LeO.bind ?_ (fun _ => ?_))
      | exact ih0 _ _
      | exact LeO.none _
      | refine LeO.ite ?_ ?_
      | refine LeO.bind ?_ (fun _ => ?_)
theorem spec_Many.mono : ∀ a0 k, LeO (spec_Many.f k a0) (spec_Many.f (k + 1) a0) := by
  intro a0 k
  have ih0 := spec_Many.mono_l k
  unfold spec_Many.f
  repeat' first
      | (with_reducible exact ih0 _ _)
      | (with_reducible exact LeO.refl _)
      | (with_reducible exact LeO.none _)
      | (with_reducible refine LeO.ite ?_ ?_)
      | (with_reducible refine LeO.bind ?_ (fun _ => ?_))
      | exact ih0 _ _
      | exact LeO.none _
      | refine LeO.ite ?_ ?_
      | refine LeO.bind ?_ (fun _ => ?_)
set_option maxHeartbeats 8000000 in
set_option maxRecDepth 100000 in
theorem spec_Many.calls (k : Nat) (a0 : Int) (r1 : Int) (r2 : Bool) (w : World) (h : spec_Many.f k a0 = some (r1, r2)) :
    Calls Try.prog 23 #[.int .u8 a0] w fun e w' => e = .returned (.tuple #[.int .i64 r1, .bool r2]) ∧ Drawn0 w w' := by
  have H : (if a0 = 42 then (spec_Many.j0 k a0 (a0 == 42)) else (if a0 = 126 then (spec_Many.j0 k a0 (a0 == 126)) else (spec_Many.j0 k a0 (a0 == 62)))) = some (r1, r2) := h
  clear h
  have HC2 := Aside0.mk H
  clear H
  go_enter Try.func23, Try.ntmps23
  go_upto_if 5 with (fail)
  go_cut [5] (fun v5 wc => ∃ (kq : Nat) (x5_1 : Bool), v5 = .bool x5_1 ∧ Aside0 (spec_Many.j0 kq a0 x5_1 = some (r1, r2)) ∧ Aside0 (kq ≤ k) ∧ Drawn0 w wc)
  case first =>
    have H := HC2.out
    clear HC2
    by_cases c3 : a0 = 42
    · rw [if_pos c3] at H
      have c3b0 : (a0 == 42) = true := beq_iff_eq.mpr c3
      have c3b1 : (a0 != 42) = false := bne_eq_false_iff_eq.mpr c3
      clear c3
      (first | rw [c3b0] | (simp only [i64_w, i32_w]; rw [c3b0]) | skip)
      have H' := Aside0.mk H
      clear H
      go_wp2
      go_meet
      case rel => exact ⟨_, ((a0 == 42)), (by first | rfl | (simp; done) | (simp [*]; done)), H', ⟨by first | omega | exact Nat.le_refl _⟩, by repeat (first | exact Drawn0.refl _ | apply Drawn0.step)⟩
    · rw [if_neg c3] at H
      have c3b0 : (a0 == 42) = false := beq_eq_false_iff_ne.mpr c3
      have c3b1 : (a0 != 42) = true := bne_iff_ne.mpr c3
      (first | rw [c3b0] | (simp only [i64_w, i32_w]; rw [c3b0]) | skip)
      by_cases c4 : a0 = 126
      · rw [if_pos c4] at H
        have c4b0 : (a0 == 126) = true := beq_iff_eq.mpr c4
        have c4b1 : (a0 != 126) = false := bne_eq_false_iff_eq.mpr c4
        clear c4
        have H' := Aside0.mk H
        clear H
        go_wp2
        go_meet
        case rel => exact ⟨_, ((a0 == 126)), (by first | rfl | (simp; done) | (simp [*]; done)), H', ⟨by first | omega | exact Nat.le_refl _⟩, by repeat (first | exact Drawn0.refl _ | apply Drawn0.step)⟩
      · rw [if_neg c4] at H
        have c4b0 : (a0 == 126) = false := beq_eq_false_iff_ne.mpr c4
        have c4b1 : (a0 != 126) = true := bne_iff_ne.mpr c4
        have H' := Aside0.mk H
        clear H
        go_wp2
        go_meet
        case rel => exact ⟨_, ((a0 == 62)), (by first | rfl | (simp; done) | (simp [*]; done)), H', ⟨by first | omega | exact Nat.le_refl _⟩, by repeat (first | exact Drawn0.refl _ | apply Drawn0.step)⟩
  case rest =>
    clear HC2
    try clear c2
    try clear p2
    try clear c3
    try clear c3b0
    try clear c3b1
    try clear c4
    try clear c4b0
    try clear c4b1
    obtain ⟨kq, x5_1, rfl, HA, HJ1, ⟨mc1, rfl⟩⟩ := hcut
    cases kq with
    | zero => exact absurd HA.out (by simp [spec_Many.j0])
    | succ kj1 =>
      have H := HA.out
      clear HA
      simp only [spec_Many.j0] at H
      by_cases c5 : x5_1 = true
      · subst c5
        have H1 : (some (1, true)) = some (r1, r2) := by rw [if_pos rfl] at H; exact H
        clear H
        have H := H1
        clear H1
        simp only [Option.some.injEq, Prod.mk.injEq] at H
        obtain ⟨rfl, rfl⟩ := H
        go_wp2
        go_ret2
        exact ⟨by first | rfl | (simp; done) | (simp [*]; done), by repeat (first | exact Drawn0.refl _ | apply Drawn0.step)⟩
      · replace c5 := Bool.eq_false_iff.mpr c5
        subst c5
        have H1 : (if a0 = 37 then (some (2, true)) else (if a0 = 124 then (some (2, true)) else (some (0, false)))) = some (r1, r2) := by rw [if_neg (show ¬ (false = true) by decide)] at H; exact H
        clear H
        have H := H1
        clear H1
        by_cases c6 : a0 = 37
        · rw [if_pos c6] at H
          have c6b0 : (a0 == 37) = true := beq_iff_eq.mpr c6
          have c6b1 : (a0 != 37) = false := bne_eq_false_iff_eq.mpr c6
          clear c6
          simp only [Option.some.injEq, Prod.mk.injEq] at H
          obtain ⟨rfl, rfl⟩ := H
          go_wp2
          go_ret2
          exact ⟨by first | rfl | (simp; done) | (simp [*]; done), by repeat (first | exact Drawn0.refl _ | apply Drawn0.step)⟩
        · rw [if_neg c6] at H
          have c6b0 : (a0 == 37) = false := beq_eq_false_iff_ne.mpr c6
          have c6b1 : (a0 != 37) = true := bne_iff_ne.mpr c6
          by_cases c7 : a0 = 124
          · rw [if_pos c7] at H
            have c7b0 : (a0 == 124) = true := beq_iff_eq.mpr c7
            have c7b1 : (a0 != 124) = false := bne_eq_false_iff_eq.mpr c7
            clear c7
            simp only [Option.some.injEq, Prod.mk.injEq] at H
            obtain ⟨rfl, rfl⟩ := H
            go_wp2
            go_ret2
            exact ⟨by first | rfl | (simp; done) | (simp [*]; done), by repeat (first | exact Drawn0.refl _ | apply Drawn0.step)⟩
          · rw [if_neg c7] at H
            have c7b0 : (a0 == 124) = false := beq_eq_false_iff_ne.mpr c7
            have c7b1 : (a0 != 124) = true := bne_iff_ne.mpr c7
            simp only [Option.some.injEq, Prod.mk.injEq] at H
            obtain ⟨rfl, rfl⟩ := H
            go_wp2
            go_ret2
            exact ⟨by first | rfl | (simp; done) | (simp [*]; done), by repeat (first | exact Drawn0.refl _ | apply Drawn0.step)⟩

/-! ### spec_Blob: function 41 -/
def spec_Blob.f (a0 : Int) : Option (Bool) := if a0 = 36 then (some true) else (if a0 = 33 then (some true) else (if a0 = 61 then (some true) else (some (a0 == 59))))
set_option maxHeartbeats 8000000 in
set_option maxRecDepth 100000 in
theorem spec_Blob.calls (a0 : Int) (r : Bool) (w : World) (h : spec_Blob.f a0 = some r) :
    Calls Try.prog 41 #[.int .u8 a0] w fun e w' => e = .returned (.bool r) ∧ Drawn0 w w' := by
  have H : (if a0 = 36 then (some true) else (if a0 = 33 then (some true) else (if a0 = 61 then (some true) else (some (a0 == 59))))) = some r := h
  clear h
  by_cases c2 : a0 = 36
  · rw [if_pos c2] at H
    have c2b0 : (a0 == 36) = true := beq_iff_eq.mpr c2
    have c2b1 : (a0 != 36) = false := bne_eq_false_iff_eq.mpr c2
    clear c2
    obtain rfl := Option.some.inj H
    go_enter Try.func41, Try.ntmps41
    go_wp2
    go_ret
    exact ⟨by first | rfl | (simp; done) | (simp [*]; done), by repeat (first | exact Drawn0.refl _ | apply Drawn0.step)⟩
  · rw [if_neg c2] at H
    have c2b0 : (a0 == 36) = false := beq_eq_false_iff_ne.mpr c2
    have c2b1 : (a0 != 36) = true := bne_iff_ne.mpr c2
    by_cases c3 : a0 = 33
    · rw [if_pos c3] at H
      have c3b0 : (a0 == 33) = true := beq_iff_eq.mpr c3
      have c3b1 : (a0 != 33) = false := bne_eq_false_iff_eq.mpr c3
      clear c3
      obtain rfl := Option.some.inj H
      go_enter Try.func41, Try.ntmps41
      go_wp2
      go_ret
      exact ⟨by first | rfl | (simp; done) | (simp [*]; done), by repeat (first | exact Drawn0.refl _ | apply Drawn0.step)⟩
    · rw [if_neg c3] at H
      have c3b0 : (a0 == 33) = false := beq_eq_false_iff_ne.mpr c3
      have c3b1 : (a0 != 33) = true := bne_iff_ne.mpr c3
      by_cases c4 : a0 = 61
      · rw [if_pos c4] at H
        have c4b0 : (a0 == 61) = true := beq_iff_eq.mpr c4
        have c4b1 : (a0 != 61) = false := bne_eq_false_iff_eq.mpr c4
        clear c4
        obtain rfl := Option.some.inj H
        go_enter Try.func41, Try.ntmps41
        go_wp2
        go_ret
        exact ⟨by first | rfl | (simp; done) | (simp [*]; done), by repeat (first | exact Drawn0.refl _ | apply Drawn0.step)⟩
      · rw [if_neg c4] at H
        have c4b0 : (a0 == 61) = false := beq_eq_false_iff_ne.mpr c4
        have c4b1 : (a0 != 61) = true := bne_iff_ne.mpr c4
        obtain rfl := Option.some.inj H
        go_enter Try.func41, Try.ntmps41
        go_wp2
        go_ret
        exact ⟨by first | rfl | (simp; done) | (simp [*]; done), by repeat (first | exact Drawn0.refl _ | apply Drawn0.step)⟩

-- NOT PRINTED: function 47 (spec_weigh)

-- NOT PRINTED: function 34 (spec_Right)

end Go.Proofs.Ytcjdadfiedoflaa.PFnRawTells
