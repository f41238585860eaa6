/- Runes quoted; prefixes. -/
import Derived.Test.YtbahngfpadjbhaaDoorTe
import Derived.Test.YtbahngfpadjbhaaDoorGm
namespace Go.Proofs.YtbahngfpadjbhaaDoor.dec
open Go.RowKit Go.Proofs.HHW Go.Proofs.YtbahngfpadjbhaaDoorW.PrintWords
set_option linter.unusedVariables false
set_option linter.unusedSimpArgs false
namespace ga
open Go.Proofs.HHW (EscOk escT)
theorem sz5 : szB Tryd.prog 5 = some 1 := by kernel_rfl
theorem zv5 : zvB Tryd.prog 5 = some (.int .u8 0) := by kernel_rfl
theorem in5 : (Tryd.prog.info? 5).map (fun i => (i.zero, i.size, i.bytes)) = some (some (.int .u8 0), 1, 1) := by kernel_rfl

def hp (s p : ByteArray) : Bool := decide (p.size ≤ s.size) && ((s.extract 0 p.size).toList == p.toList)
theorem _root_.Go.Proofs.HHW.EscOk.lt {r : Nat} (h : EscOk r) : r < 127 := by unfold EscOk at h; omega
theorem escT_len (r : Nat) : (escT r).length ≤ 2 := by unfold escT; split <;> simp
theorem vrune_ (w0 : World) (r : Int) (h0 : 0 ≤ r) (h1 : r < 128) : Calls Tryd.prog 76 #[.int .i32 r] w0 fun e w' => e = .returned (.bool true) ∧ Below w0.heap.size w0 w' := by
 have H := HH.start w0
 refine c_enter (args := [.int .i32 r]) (k := 16) Tryd.func76 rfl rfl rfl (fun a S => ?_)
 refine wp_seq ?_
 refine c_region ?_
 refine l_pure S (p_assign rfl) rfl rfl rfl ?_; clear S a; intro a S
 refine l_nil ?_
 refine e_then ?_
 refine wp_seq ?_
 refine wp_block ?_
 refine wp_seq ?_
 refine c_region ?_
 refine l_pure S (p_move rfl) rfl rfl rfl ?_; clear S a; intro a S
 refine l_pure S (p_leq rfl rfl) rfl rfl rfl ?_; clear S a; intro a S
 refine l_pure S (p_move rfl) rfl rfl rfl ?_; clear S a; intro a S
 refine l_split (S.of 6 rfl) (fun bc3 => ?_) (fun bc3 => ?_)
 ·
  have c3 := bc3
  have c3 := of_decide_eq_true c3
  refine l_on S rfl rfl rfl rfl bc3 ?_
  refine l_pure S (p_move rfl) rfl rfl rfl ?_; clear S a; intro a S
  refine l_on S rfl rfl rfl rfl bc3 ?_
  refine l_pure S (p_lss rfl rfl) rfl rfl rfl ?_; clear S a; intro a S
  refine l_pure S (p_pick_t rfl bc3 rfl) rfl rfl rfl ?_; clear S a; intro a S
  refine l_pure S (p_assign rfl) rfl rfl rfl ?_; clear S a; intro a S
  refine l_nil ?_
  refine e_then ?_
  refine c_cond S rfl (fun bc5 => ?_) (fun bc5 => ?_)
  ·
   have c5 := bc5
   have c5 := of_decide_eq_true c5
   refine wp_seq ?_
   refine c_region ?_
   refine l_pure S (p_assign rfl) rfl rfl rfl ?_; clear S a; intro a S
   refine l_nil ?_
   refine e_then ?_
   refine wp_ret ?_
   refine e_in_ret ?_
   refine e_then_ret ?_
   exact r_ret1 S rfl rfl ⟨rfl, H.below⟩
  ·
   have c5 := bc5
   have c5 := of_decide_eq_false c5
   refine wp_seq ?_
   refine c_region ?_
   refine l_pure S (p_move rfl) rfl rfl rfl ?_; clear S a; intro a S
   refine l_pure S (p_lss rfl rfl) rfl rfl rfl ?_; clear S a; intro a S
   refine l_pure S (p_move rfl) rfl rfl rfl ?_; clear S a; intro a S
   refine l_split (S.of 13 rfl) (fun bc8 => ?_) (fun bc8 => ?_)
   ·
    have c8 := bc8
    have c8 := of_decide_eq_true c8
    refine l_on S rfl rfl rfl rfl bc8 ?_
    refine l_pure S (p_move rfl) rfl rfl rfl ?_; clear S a; intro a S
    refine l_on S rfl rfl rfl rfl bc8 ?_
    refine l_pure S (p_leq rfl rfl) rfl rfl rfl ?_; clear S a; intro a S
    refine l_pure S (p_pick_t rfl bc8 rfl) rfl rfl rfl ?_; clear S a; intro a S
    refine l_pure S (p_assign rfl) rfl rfl rfl ?_; clear S a; intro a S
    refine l_nil ?_
    refine e_then ?_
    refine c_cond S rfl (fun bc10 => ?_) (fun bc10 => ?_)
    ·
     have c10 := bc10
     have c10 := of_decide_eq_true c10
     refine wp_seq ?_
     refine c_region ?_
     refine l_pure S (p_assign rfl) rfl rfl rfl ?_; clear S a; intro a S
     refine l_nil ?_
     refine e_then ?_
     refine wp_ret ?_
     refine e_in_ret ?_
     refine e_then_ret ?_
     exact r_ret1 S rfl rfl ⟨rfl, H.below⟩
    ·
     have c10 := bc10
     have c10 := of_decide_eq_false c10
     refine wp_skip ?_
     refine e_in 0 ?_
     refine e_then ?_
     refine wp_seq ?_
     refine c_region ?_
     refine l_pure S (p_assign rfl) rfl rfl rfl ?_; clear S a; intro a S
     refine l_nil ?_
     refine e_then ?_
     refine wp_ret ?_
     exfalso; omega
   ·
    have c8 := bc8
    have c8 := of_decide_eq_false c8
    refine l_off S rfl rfl rfl rfl bc8 rfl rfl ?_; clear S a; intro a S
    refine l_off S rfl rfl rfl rfl bc8 rfl rfl ?_; clear S a; intro a S
    refine l_pure S (p_pick_f rfl bc8 rfl) rfl rfl rfl ?_; clear S a; intro a S
    refine l_pure S (p_assign rfl) rfl rfl rfl ?_; clear S a; intro a S
    refine l_nil ?_
    refine e_then ?_
    refine c_cond (b := false) S rfl (fun h => by cases h) (fun _ => ?_)
    refine wp_skip ?_
    refine e_in 0 ?_
    refine e_then ?_
    refine wp_seq ?_
    refine c_region ?_
    refine l_pure S (p_assign rfl) rfl rfl rfl ?_; clear S a; intro a S
    refine l_nil ?_
    refine e_then ?_
    refine wp_ret ?_
    exfalso; omega
 ·
  have c3 := bc3
  have c3 := of_decide_eq_false c3
  refine l_off S rfl rfl rfl rfl bc3 rfl rfl ?_; clear S a; intro a S
  refine l_off S rfl rfl rfl rfl bc3 rfl rfl ?_; clear S a; intro a S
  refine l_pure S (p_pick_f rfl bc3 rfl) rfl rfl rfl ?_; clear S a; intro a S
  refine l_pure S (p_assign rfl) rfl rfl rfl ?_; clear S a; intro a S
  refine l_nil ?_
  refine e_then ?_
  refine c_cond (b := false) S rfl (fun h => by cases h) (fun _ => ?_)
  refine wp_seq ?_
  refine c_region ?_
  refine l_pure S (p_move rfl) rfl rfl rfl ?_; clear S a; intro a S
  refine l_pure S (p_lss rfl rfl) rfl rfl rfl ?_; clear S a; intro a S
  refine l_pure S (p_move rfl) rfl rfl rfl ?_; clear S a; intro a S
  refine l_split (S.of 13 rfl) (fun bc19 => ?_) (fun bc19 => ?_)
  ·
   have c19 := bc19
   have c19 := of_decide_eq_true c19
   refine l_on S rfl rfl rfl rfl bc19 ?_
   refine l_pure S (p_move rfl) rfl rfl rfl ?_; clear S a; intro a S
   refine l_on S rfl rfl rfl rfl bc19 ?_
   refine l_pure S (p_leq rfl rfl) rfl rfl rfl ?_; clear S a; intro a S
   refine l_pure S (p_pick_t rfl bc19 rfl) rfl rfl rfl ?_; clear S a; intro a S
   refine l_pure S (p_assign rfl) rfl rfl rfl ?_; clear S a; intro a S
   refine l_nil ?_
   refine e_then ?_
   refine c_cond S rfl (fun bc21 => ?_) (fun bc21 => ?_)
   ·
    have c21 := bc21
    have c21 := of_decide_eq_true c21
    refine wp_seq ?_
    refine c_region ?_
    refine l_pure S (p_assign rfl) rfl rfl rfl ?_; clear S a; intro a S
    refine l_nil ?_
    refine e_then ?_
    refine wp_ret ?_
    refine e_in_ret ?_
    refine e_then_ret ?_
    exact r_ret1 S rfl rfl ⟨rfl, H.below⟩
   ·
    have c21 := bc21
    have c21 := of_decide_eq_false c21
    refine wp_skip ?_
    refine e_in 0 ?_
    refine e_then ?_
    refine wp_seq ?_
    refine c_region ?_
    refine l_pure S (p_assign rfl) rfl rfl rfl ?_; clear S a; intro a S
    refine l_nil ?_
    refine e_then ?_
    refine wp_ret ?_
    exfalso; omega
  ·
   have c19 := bc19
   have c19 := of_decide_eq_false c19
   refine l_off S rfl rfl rfl rfl bc19 rfl rfl ?_; clear S a; intro a S
   refine l_off S rfl rfl rfl rfl bc19 rfl rfl ?_; clear S a; intro a S
   refine l_pure S (p_pick_f rfl bc19 rfl) rfl rfl rfl ?_; clear S a; intro a S
   refine l_pure S (p_assign rfl) rfl rfl rfl ?_; clear S a; intro a S
   refine l_nil ?_
   refine e_then ?_
   refine c_cond (b := false) S rfl (fun h => by cases h) (fun _ => ?_)
   refine wp_skip ?_
   refine e_in 0 ?_
   refine e_then ?_
   refine wp_seq ?_
   refine c_region ?_
   refine l_pure S (p_assign rfl) rfl rfl rfl ?_; clear S a; intro a S
   refine l_nil ?_
   refine e_then ?_
   refine wp_ret ?_
   exfalso; omega
theorem isPrint_ (w0 : World) (r : Int) (h0 : 0 ≤ r) (h1 : r < 127) : Calls Tryd.prog 78 #[.int .i32 r] w0 fun e w' => e = .returned (.bool (decide (32 ≤ r))) ∧ Below w0.heap.size w0 w' := by
 have H := HH.start w0
 refine c_enter (args := [.int .i32 r]) (k := 123) Tryd.func78 rfl rfl rfl (fun a S => ?_)
 refine wp_seq ?_
 refine c_region ?_
 refine l_pure S (p_assign rfl) rfl rfl rfl ?_; clear S a; intro a S
 refine l_nil ?_
 refine e_then ?_
 refine wp_seq ?_
 refine wp_seq ?_
 refine c_region ?_
 refine l_pure S (p_move rfl) rfl rfl rfl ?_; clear S a; intro a S
 refine l_pure S (p_leq rfl rfl) rfl rfl rfl ?_; clear S a; intro a S
 refine l_nil ?_
 refine e_then ?_
 refine c_cond S rfl (fun c3 => ?_) (fun c3 => by have c3 := of_decide_eq_false c3; exfalso; omega)
 have c3 := of_decide_eq_true c3
 refine wp_seq ?_
 refine wp_seq ?_
 refine c_region ?_
 refine l_pure S (p_move rfl) rfl rfl rfl ?_; clear S a; intro a S
 refine l_pure S (p_leq rfl rfl) rfl rfl rfl ?_; clear S a; intro a S
 refine l_pure S (p_move rfl) rfl rfl rfl ?_; clear S a; intro a S
 refine l_split (S.of 21 rfl) (fun bc5 => ?_) (fun bc5 => ?_)
 ·
  have c5 := bc5
  have c5 := of_decide_eq_true c5
  refine l_on S rfl rfl rfl rfl bc5 ?_
  refine l_pure S (p_move rfl) rfl rfl rfl ?_; clear S a; intro a S
  refine l_on S rfl rfl rfl rfl bc5 ?_
  refine l_pure S (p_leq rfl rfl) rfl rfl rfl ?_; clear S a; intro a S
  refine l_pure S (p_pick_t rfl bc5 rfl) rfl rfl rfl ?_; clear S a; intro a S
  refine l_nil ?_
  refine e_then ?_
  refine c_cond S rfl (fun bc7 => ?_) (fun bc7 => ?_)
  ·
   have c7 := bc7
   have c7 := of_decide_eq_true c7
   refine wp_seq ?_
   refine c_region ?_
   refine l_pure S (p_assign rfl) rfl rfl rfl ?_; clear S a; intro a S
   refine l_nil ?_
   refine e_then ?_
   refine wp_ret ?_
   refine e_then_ret ?_
   refine e_then_ret ?_
   exact r_ret1 S rfl rfl ⟨by rw [decide_eq_true (by omega)], H.below⟩
  ·
   have c7 := bc7
   have c7 := of_decide_eq_false c7
   refine wp_skip ?_
   refine e_then ?_
   refine wp_seq ?_
   refine wp_seq ?_
   refine c_region ?_
   refine l_pure S (p_move rfl) rfl rfl rfl ?_; clear S a; intro a S
   refine l_pure S (p_leq rfl rfl) rfl rfl rfl ?_; clear S a; intro a S
   refine l_pure S (p_move rfl) rfl rfl rfl ?_; clear S a; intro a S
   refine l_split (S.of 27 rfl) (fun bc10 => ?_) (fun bc10 => ?_)
   ·
    have c10 := bc10
    have c10 := of_decide_eq_true c10
    refine l_on S rfl rfl rfl rfl bc10 ?_
    refine l_pure S (p_move rfl) rfl rfl rfl ?_; clear S a; intro a S
    refine l_on S rfl rfl rfl rfl bc10 ?_
    refine l_pure S (p_leq rfl rfl) rfl rfl rfl ?_; clear S a; intro a S
    refine l_pure S (p_pick_t rfl bc10 rfl) rfl rfl rfl ?_; clear S a; intro a S
    refine l_nil ?_
    refine e_then ?_
    refine c_cond S rfl (fun bc12 => ?_) (fun bc12 => ?_)
    ·
     have c12 := bc12
     have c12 := of_decide_eq_true c12
     refine wp_seq ?_
     refine c_region ?_
     refine l_pure S (p_move rfl) rfl rfl rfl ?_; clear S a; intro a S
     refine l_pure S (p_neq rfl rfl) rfl rfl rfl ?_; clear S a; intro a S
     refine l_pure S (p_assign rfl) rfl rfl rfl ?_; clear S a; intro a S
     refine l_nil ?_
     refine e_then ?_
     refine wp_ret ?_
     refine e_then_ret ?_
     refine e_then_ret ?_
     exfalso; omega
    ·
     have c12 := bc12
     have c12 := of_decide_eq_false c12
     refine wp_skip ?_
     refine e_then ?_
     refine wp_seq ?_
     refine c_region ?_
     refine l_pure S (p_assign rfl) rfl rfl rfl ?_; clear S a; intro a S
     refine l_nil ?_
     refine e_then ?_
     refine wp_ret ?_
     refine e_then_ret ?_
     exact r_ret1 S rfl rfl ⟨by rw [decide_eq_false (by omega)], H.below⟩
   ·
    have c10 := bc10
    have c10 := of_decide_eq_false c10
    refine l_off S rfl rfl rfl rfl bc10 rfl rfl ?_; clear S a; intro a S
    refine l_off S rfl rfl rfl rfl bc10 rfl rfl ?_; clear S a; intro a S
    refine l_pure S (p_pick_f rfl bc10 rfl) rfl rfl rfl ?_; clear S a; intro a S
    refine l_nil ?_
    refine e_then ?_
    refine c_cond (b := false) S rfl (fun h => by cases h) (fun _ => ?_)
    refine wp_skip ?_
    refine e_then ?_
    refine wp_seq ?_
    refine c_region ?_
    refine l_pure S (p_assign rfl) rfl rfl rfl ?_; clear S a; intro a S
    refine l_nil ?_
    refine e_then ?_
    refine wp_ret ?_
    refine e_then_ret ?_
    exact r_ret1 S rfl rfl ⟨by rw [decide_eq_false (by omega)], H.below⟩
 ·
  have c5 := bc5
  have c5 := of_decide_eq_false c5
  refine l_off S rfl rfl rfl rfl bc5 rfl rfl ?_; clear S a; intro a S
  refine l_off S rfl rfl rfl rfl bc5 rfl rfl ?_; clear S a; intro a S
  refine l_pure S (p_pick_f rfl bc5 rfl) rfl rfl rfl ?_; clear S a; intro a S
  refine l_nil ?_
  refine e_then ?_
  refine c_cond (b := false) S rfl (fun h => by cases h) (fun _ => ?_)
  refine wp_skip ?_
  refine e_then ?_
  refine wp_seq ?_
  refine wp_seq ?_
  refine c_region ?_
  refine l_pure S (p_move rfl) rfl rfl rfl ?_; clear S a; intro a S
  refine l_pure S (p_leq rfl rfl) rfl rfl rfl ?_; clear S a; intro a S
  refine l_pure S (p_move rfl) rfl rfl rfl ?_; clear S a; intro a S
  refine l_split (S.of 27 rfl) (fun bc21 => ?_) (fun bc21 => ?_)
  ·
   have c21 := bc21
   have c21 := of_decide_eq_true c21
   refine l_on S rfl rfl rfl rfl bc21 ?_
   refine l_pure S (p_move rfl) rfl rfl rfl ?_; clear S a; intro a S
   refine l_on S rfl rfl rfl rfl bc21 ?_
   refine l_pure S (p_leq rfl rfl) rfl rfl rfl ?_; clear S a; intro a S
   refine l_pure S (p_pick_t rfl bc21 rfl) rfl rfl rfl ?_; clear S a; intro a S
   refine l_nil ?_
   refine e_then ?_
   refine c_cond S rfl (fun bc23 => ?_) (fun bc23 => ?_)
   ·
    have c23 := bc23
    have c23 := of_decide_eq_true c23
    refine wp_seq ?_
    refine c_region ?_
    refine l_pure S (p_move rfl) rfl rfl rfl ?_; clear S a; intro a S
    refine l_pure S (p_neq rfl rfl) rfl rfl rfl ?_; clear S a; intro a S
    refine l_pure S (p_assign rfl) rfl rfl rfl ?_; clear S a; intro a S
    refine l_nil ?_
    refine e_then ?_
    refine wp_ret ?_
    refine e_then_ret ?_
    refine e_then_ret ?_
    exfalso; omega
   ·
    have c23 := bc23
    have c23 := of_decide_eq_false c23
    refine wp_skip ?_
    refine e_then ?_
    refine wp_seq ?_
    refine c_region ?_
    refine l_pure S (p_assign rfl) rfl rfl rfl ?_; clear S a; intro a S
    refine l_nil ?_
    refine e_then ?_
    refine wp_ret ?_
    refine e_then_ret ?_
    exact r_ret1 S rfl rfl ⟨by rw [decide_eq_false (by omega)], H.below⟩
  ·
   have c21 := bc21
   have c21 := of_decide_eq_false c21
   refine l_off S rfl rfl rfl rfl bc21 rfl rfl ?_; clear S a; intro a S
   refine l_off S rfl rfl rfl rfl bc21 rfl rfl ?_; clear S a; intro a S
   refine l_pure S (p_pick_f rfl bc21 rfl) rfl rfl rfl ?_; clear S a; intro a S
   refine l_nil ?_
   refine e_then ?_
   refine c_cond (b := false) S rfl (fun h => by cases h) (fun _ => ?_)
   refine wp_skip ?_
   refine e_then ?_
   refine wp_seq ?_
   refine c_region ?_
   refine l_pure S (p_assign rfl) rfl rfl rfl ?_; clear S a; intro a S
   refine l_nil ?_
   refine e_then ?_
   refine wp_ret ?_
   refine e_then_ret ?_
   exact r_ret1 S rfl rfl ⟨by rw [decide_eq_false (by omega)], H.below⟩
theorem hasPrefix_ (w0 : World) (s p : ByteArray) (hs : s.size ≤ 1000000) (hpz : p.size ≤ 1000000) : Calls Tryd.prog 75 #[.string s, .string p] w0 fun e w' => e = .returned (.bool (hp s p)) ∧ Below w0.heap.size w0 w' := by
 have H := HH.start w0
 refine c_enter (args := [.string s, .string p]) (k := 16) Tryd.func75 rfl rfl rfl (fun a S => ?_)
 refine wp_seq ?_
 refine c_region ?_
 refine l_pure S (p_assign rfl) rfl rfl rfl ?_; clear S a; intro a S
 refine l_nil ?_
 refine e_then ?_
 refine wp_seq ?_
 refine c_region ?_
 refine l_pure S (p_move rfl) rfl rfl rfl ?_; clear S a; intro a S
 refine l_pure S (p_lens Tryd.underlying9 rfl) rfl rfl rfl ?_; clear S a; intro a S
 refine l_pure S (p_move rfl) rfl rfl rfl ?_; clear S a; intro a S
 refine l_pure S (p_lens Tryd.underlying9 rfl) rfl rfl rfl ?_; clear S a; intro a S
 refine l_pure S (p_geq rfl rfl) rfl rfl rfl ?_; clear S a; intro a S
 refine l_pure S (p_move rfl) rfl rfl rfl ?_; clear S a; intro a S
 refine l_split (S.of 10 rfl) (fun bc3 => ?_) (fun bc3 => ?_)
 ·
  have c3 := bc3
  have c3 := of_decide_eq_true c3
  refine l_on S rfl rfl rfl rfl bc3 ?_
  refine l_pure S (p_move rfl) rfl rfl rfl ?_; clear S a; intro a S
  refine l_on S rfl rfl rfl rfl bc3 ?_
  refine l_pure S (p_move rfl) rfl rfl rfl ?_; clear S a; intro a S
  refine l_on S rfl rfl rfl rfl bc3 ?_
  refine l_pure S (p_lens Tryd.underlying9 rfl) rfl rfl rfl ?_; clear S a; intro a S
  refine l_on S rfl rfl rfl rfl bc3 ?_
  refine l_pure S (p_slice rfl (fun _ _ => o_none) (o_some rfl) (fun _ _ => o_none) (fun w => sl_string_hi Tryd.underlying9 (by omega) (by omega))) rfl rfl rfl ?_; clear S a; intro a S
  refine l_on S rfl rfl rfl rfl bc3 ?_
  refine l_pure S (p_move rfl) rfl rfl rfl ?_; clear S a; intro a S
  refine l_on S rfl rfl rfl rfl bc3 ?_
  refine l_pure S (p_seql rfl rfl) rfl rfl rfl ?_; clear S a; intro a S
  refine l_pure S (p_pick_t rfl bc3 rfl) rfl rfl rfl ?_; clear S a; intro a S
  refine l_pure S (p_assign rfl) rfl rfl rfl ?_; clear S a; intro a S
  refine l_nil ?_
  refine e_then ?_
  refine wp_ret ?_
  exact r_ret1 S rfl rfl ⟨by unfold hp; rw [decide_eq_true (by omega)]; rw [Bool.true_and]; rfl, H.below⟩
 ·
  have c3 := bc3
  have c3 := of_decide_eq_false c3
  refine l_off S rfl rfl rfl rfl bc3 rfl rfl ?_; clear S a; intro a S
  refine l_off S rfl rfl rfl rfl bc3 rfl rfl ?_; clear S a; intro a S
  refine l_off S rfl rfl rfl rfl bc3 rfl rfl ?_; clear S a; intro a S
  refine l_off S rfl rfl rfl rfl bc3 rfl rfl ?_; clear S a; intro a S
  refine l_off S rfl rfl rfl rfl bc3 rfl rfl ?_; clear S a; intro a S
  refine l_off S rfl rfl rfl rfl bc3 rfl rfl ?_; clear S a; intro a S
  refine l_pure S (p_pick_f rfl bc3 rfl) rfl rfl rfl ?_; clear S a; intro a S
  refine l_pure S (p_assign rfl) rfl rfl rfl ?_; clear S a; intro a S
  refine l_nil ?_
  refine e_then ?_
  refine wp_ret ?_
  exact r_ret1 S rfl rfl ⟨by unfold hp; rw [decide_eq_false (by omega)]; rfl, H.below⟩
theorem trim0_ (w0 : World) (s p : ByteArray) (hs : s.size ≤ 1000000) (hpz : p.size ≤ 1000000) : Calls Tryd.prog 73 #[.string s, .string p] w0 fun e w' => e = .returned (.string (if hp s p then s.extract p.size s.size else s)) ∧ Below w0.heap.size w0 w' := by
 have H := HH.start w0
 refine c_enter (args := [.string s, .string p]) (k := 11) Tryd.func73 rfl rfl rfl (fun a S => ?_)
 refine wp_seq ?_
 refine c_region ?_
 refine l_pure S (p_assign rfl) rfl rfl rfl ?_; clear S a; intro a S
 refine l_nil ?_
 refine e_then ?_
 refine wp_seq ?_
 refine wp_seq ?_
 refine c_region ?_
 refine l_pure S (p_move rfl) rfl rfl rfl ?_; clear S a; intro a S
 refine l_pure S (p_move rfl) rfl rfl rfl ?_; clear S a; intro a S
 refine l_call S rfl rfl Tryd.func75 rfl rfl (hasPrefix_ _ s p hs hpz) rfl rfl rfl ?_
 rintro e w ⟨rfl, hb⟩
 refine ⟨_, rfl, ?_⟩; clear S a; intro a S
 replace H := H.later hb; clear hb
 refine l_nil ?_
 refine e_then ?_
 refine c_cond S rfl (fun bc2 => ?_) (fun bc2 => ?_)
 ·
  have c2 := bc2
  have hle : p.size ≤ s.size := by unfold hp at c2; simp at c2; exact c2.1
  refine wp_seq ?_
  refine c_region ?_
  refine l_pure S (p_move rfl) rfl rfl rfl ?_; clear S a; intro a S
  refine l_pure S (p_move rfl) rfl rfl rfl ?_; clear S a; intro a S
  refine l_pure S (p_lens Tryd.underlying9 rfl) rfl rfl rfl ?_; clear S a; intro a S
  refine l_pure S (p_slice rfl (o_some rfl) (fun _ _ => o_none) (fun _ _ => o_none) (fun w => sl_string_lo Tryd.underlying9 (by omega) (by omega))) rfl rfl rfl ?_; clear S a; intro a S
  rw [Int.toNat_natCast] at S
  refine l_pure S (p_assign rfl) rfl rfl rfl ?_; clear S a; intro a S
  refine l_nil ?_
  refine e_then ?_
  refine wp_ret ?_
  refine e_then_ret ?_
  exact r_ret1 S rfl rfl ⟨by rw [if_pos c2], H.below⟩
 ·
  have c2 := bc2
  refine wp_skip ?_
  refine e_then ?_
  refine wp_seq ?_
  refine c_region ?_
  refine l_pure S (p_move rfl) rfl rfl rfl ?_; clear S a; intro a S
  refine l_pure S (p_assign rfl) rfl rfl rfl ?_; clear S a; intro a S
  refine l_nil ?_
  refine e_then ?_
  refine wp_ret ?_
  exact r_ret1 S rfl rfl ⟨by rw [if_neg (by rw [c2]; decide)], H.below⟩
theorem trim_ (w0 : World) (s p : ByteArray) (hs : s.size ≤ 1000000) (hpz : p.size ≤ 1000000) : Calls Tryd.prog 68 #[.string s, .string p] w0 fun e w' => e = .returned (.string (if hp s p then s.extract p.size s.size else s)) ∧ Below w0.heap.size w0 w' := by
 have H := HH.start w0
 refine c_enter (args := [.string s, .string p]) (k := 6) Tryd.func68 rfl rfl rfl (fun a S => ?_)
 refine wp_seq ?_
 refine c_region ?_
 refine l_pure S (p_assign rfl) rfl rfl rfl ?_; clear S a; intro a S
 refine l_nil ?_
 refine e_then ?_
 refine wp_seq ?_
 refine c_region ?_
 refine l_pure S (p_move rfl) rfl rfl rfl ?_; clear S a; intro a S
 refine l_pure S (p_move rfl) rfl rfl rfl ?_; clear S a; intro a S
 refine l_call S rfl rfl Tryd.func73 rfl rfl (trim0_ _ s p hs hpz) rfl rfl rfl ?_
 rintro e w ⟨rfl, hb⟩
 refine ⟨_, rfl, ?_⟩; clear S a; intro a S
 replace H := H.later hb; clear hb
 refine l_pure S (p_assign rfl) rfl rfl rfl ?_; clear S a; intro a S
 refine l_nil ?_
 refine e_then ?_
 refine wp_ret ?_
 exact r_ret1 S rfl rfl ⟨rfl, H.below⟩
theorem appRune_ (wb w0 : World) (B : Nat) (L0 : List (Nat × Obj)) (E : List (Nat × Obj)) (A : Option Addr) (c : Nat) (xs : List Int) (r : Nat) (hr : r < 128) (hOw : OwnB 5 (.slice A xs.length c) xs E) (H : HH B wb w0 (E ++ L0)) (hx : xs.length ≤ 100000) : Calls Tryd.prog 80 #[.slice A xs.length c, .int .i32 (r : Int)] w0 fun e w' => ∃ A' c' E', e = .returned (.slice A' (xs ++ [(r : Int)]).length c') ∧ OwnB 5 (.slice A' (xs ++ [(r : Int)]).length c') (xs ++ [(r : Int)]) E' ∧ HH B wb w' (E' ++ L0) := by
 refine c_enter (args := [.slice A xs.length c, .int .i32 (r : Int)]) (k := 14) Tryd.func80 rfl rfl rfl (fun a S => ?_)
 refine wp_seq ?_
 refine c_region ?_
 refine l_pure S (p_assign rfl) rfl rfl rfl ?_; clear S a; intro a S
 refine l_nil ?_
 refine e_then ?_
 refine wp_seq ?_
 refine wp_seq ?_
 refine c_region ?_
 refine l_pure S (p_move rfl) rfl rfl rfl ?_; clear S a; intro a S
 refine l_pure S (p_conv rfl (fun w => cv_int (Tryd.underlying21) (Tryd.underlying111) (r := (r : Int)) (by rw [IntKind.wrap_u32]; omega))) rfl rfl rfl ?_; clear S a; intro a S
 refine l_pure S (p_leq rfl rfl) rfl rfl rfl ?_; clear S a; intro a S
 refine l_nil ?_
 refine e_then ?_
 refine c_cond S rfl (fun c2 => ?_) (fun c2 => by have c2 := of_decide_eq_false c2; exfalso; omega)
 have c2 := of_decide_eq_true c2
 refine wp_seq ?_
 refine c_region ?_
 refine l_pure S (p_move rfl) rfl rfl rfl ?_; clear S a; intro a S
 refine l_pure S (p_move rfl) rfl rfl rfl ?_; clear S a; intro a S
 refine l_pure S (p_conv rfl (fun w => cv_int (Tryd.underlying21) (Tryd.underlying5) (r := (r : Int)) (by rw [IntKind.wrap_u8]; omega))) rfl rfl rfl ?_; clear S a; intro a S
 refine l_lit [(.tmp 10)] S H rfl rfl Tryd.underlying32 sz5 zv5 rfl rfl (by simp [Value.cells]) rfl rfl rfl ?_; clear S a H; intro g3 w a H S
 refine l_ownB [_] (r := [(r : Int)]) S H rfl rfl rfl hOw (src_lit (vs := ([(r : Int)]).map (Value.int .u8)) H List.mem_cons_self Tryd.underlying32 (by simp [Value.oneCell'])) Tryd.underlying32 in5 rfl (by simp only [List.length_cons, List.length_nil]; omega) (by decide) rfl rfl rfl ?_; clear S a H; intro Aow4 cow4 ow4 w a how4 H S; replace H := H.tail
 refine l_pure S (p_assign rfl) rfl rfl rfl ?_; clear S a; intro a S
 refine l_nil ?_
 refine e_then ?_
 refine wp_ret ?_
 refine e_then_ret ?_
 exact r_ret1 S rfl rfl ⟨_, _, ow4, rfl, how4, H⟩
theorem esc32_ (wb w0 : World) (B : Nat) (L0 : List (Nat × Obj)) (E : List (Nat × Obj)) (A : Option Addr) (c : Nat) (xs : List Int) (hOw : OwnB 5 (.slice A xs.length c) xs E) (H : HH B wb w0 (E ++ L0)) (hx : xs.length ≤ 100000) : Calls Tryd.prog 77 #[.slice A xs.length c, .int .i32 32, .int .u8 39, .bool false, .bool false] w0 fun e w' => ∃ A' c' E', e = .returned (.slice A' (xs ++ [32]).length c') ∧ OwnB 5 (.slice A' (xs ++ [32]).length c') (xs ++ [32]) E' ∧ HH B wb w' (E' ++ L0) := by
 refine c_enter (args := [.slice A xs.length c, .int .i32 32, .int .u8 39, .bool false, .bool false]) (k := 140) Tryd.func77 rfl rfl rfl (fun a S => ?_)
 refine wp_seq ?_
 refine c_region ?_
 refine l_pure S (p_assign rfl) rfl rfl rfl ?_; clear S a; intro a S
 refine l_nil ?_
 refine e_then ?_
 refine wp_seq ?_
 refine wp_seq ?_
 refine c_region ?_
 refine l_pure S (p_move rfl) rfl rfl rfl ?_; clear S a; intro a S
 refine l_pure S (p_move rfl) rfl rfl rfl ?_; clear S a; intro a S
 refine l_pure S (p_conv rfl (fun w => cv_int (Tryd.underlying5) (Tryd.underlying21) (r := 39) (by decide))) rfl rfl rfl ?_; clear S a; intro a S
 refine l_pure S (p_eql rfl rfl) rfl rfl rfl ?_; clear S a; intro a S
 refine l_pure S (p_move rfl) rfl rfl rfl ?_; clear S a; intro a S
 refine l_on S rfl rfl rfl rfl rfl ?_
 refine l_pure S (p_move rfl) rfl rfl rfl ?_; clear S a; intro a S
 refine l_on S rfl rfl rfl rfl rfl ?_
 refine l_pure S (p_eql rfl rfl) rfl rfl rfl ?_; clear S a; intro a S
 refine l_pure S (p_pick_f rfl rfl rfl) rfl rfl rfl ?_; clear S a; intro a S
 refine l_nil ?_
 refine e_then ?_
 refine c_cond (b := false) S rfl (fun h => by cases h) (fun _ => ?_)
 refine wp_skip ?_
 refine e_then ?_
 refine wp_seq ?_
 refine wp_seq ?_
 refine c_region ?_
 refine l_pure S (p_move rfl) rfl rfl rfl ?_; clear S a; intro a S
 refine l_nil ?_
 refine e_then ?_
 refine c_cond (b := false) S rfl (fun h => by cases h) (fun _ => ?_)
 refine wp_seq ?_
 refine c_region ?_
 refine l_pure S (p_move rfl) rfl rfl rfl ?_; clear S a; intro a S
 refine l_call S rfl rfl Tryd.func78 rfl rfl (isPrint_ _ 32 (by decide) (by decide)) rfl rfl rfl ?_
 rintro e w ⟨rfl, hb⟩
 refine ⟨_, rfl, ?_⟩; clear S a; intro a S
 replace H := H.later hb; clear hb
 rw [show decide ((32 : Int) ≤ 32) = true by decide] at S
 refine l_pure S (p_move rfl) rfl rfl rfl ?_; clear S a; intro a S
 refine l_off S rfl rfl rfl rfl rfl rfl rfl ?_; clear S a; intro a S
 refine l_off S rfl rfl rfl rfl rfl rfl rfl ?_; clear S a; intro a S
 refine l_offU S rfl rfl rfl rfl rfl rfl ?_; clear S a; intro a S
 refine l_offU S rfl rfl rfl rfl rfl rfl ?_; clear S a; intro a S
 refine l_off S rfl rfl rfl rfl rfl rfl rfl ?_; clear S a; intro a S
 refine l_pure S (p_pick_t rfl rfl rfl) rfl rfl rfl ?_; clear S a; intro a S
 refine l_nil ?_
 refine e_then ?_
 refine c_cond (b := true) S rfl (fun _ => ?_) (fun h => by cases h)
 refine wp_seq ?_
 refine c_region ?_
 refine l_pure S (p_move rfl) rfl rfl rfl ?_; clear S a; intro a S
 refine l_pure S (p_move rfl) rfl rfl rfl ?_; clear S a; intro a S
 have hcon := appRune_ wb _ B L0 E A c xs 32 (by decide) hOw H hx
 refine l_call S rfl rfl Tryd.func80 rfl rfl (hcon) rfl rfl rfl ?_
 rintro e w ⟨A1, c1, E1, rfl, hOw1, hH⟩
 refine ⟨_, rfl, ?_⟩; clear S a; intro a S
 clear H hcon; have H := hH; clear hH
 refine l_pure S (p_assign rfl) rfl rfl rfl ?_; clear S a; intro a S
 refine l_nil ?_
 refine e_then ?_
 refine wp_ret ?_
 refine e_then_ret ?_
 have hl : (xs ++ [((32 : Nat) : Int)]) = xs ++ [32] := by simp [ints]
 rw [hl] at S hOw1
 exact r_ret1 S rfl rfl ⟨_, _, E1, rfl, hOw1, H⟩
theorem esc44_ (wb w0 : World) (B : Nat) (L0 : List (Nat × Obj)) (E : List (Nat × Obj)) (A : Option Addr) (c : Nat) (xs : List Int) (hOw : OwnB 5 (.slice A xs.length c) xs E) (H : HH B wb w0 (E ++ L0)) (hx : xs.length ≤ 100000) : Calls Tryd.prog 77 #[.slice A xs.length c, .int .i32 44, .int .u8 39, .bool false, .bool false] w0 fun e w' => ∃ A' c' E', e = .returned (.slice A' (xs ++ [44]).length c') ∧ OwnB 5 (.slice A' (xs ++ [44]).length c') (xs ++ [44]) E' ∧ HH B wb w' (E' ++ L0) := by
 refine c_enter (args := [.slice A xs.length c, .int .i32 44, .int .u8 39, .bool false, .bool false]) (k := 140) Tryd.func77 rfl rfl rfl (fun a S => ?_)
 refine wp_seq ?_
 refine c_region ?_
 refine l_pure S (p_assign rfl) rfl rfl rfl ?_; clear S a; intro a S
 refine l_nil ?_
 refine e_then ?_
 refine wp_seq ?_
 refine wp_seq ?_
 refine c_region ?_
 refine l_pure S (p_move rfl) rfl rfl rfl ?_; clear S a; intro a S
 refine l_pure S (p_move rfl) rfl rfl rfl ?_; clear S a; intro a S
 refine l_pure S (p_conv rfl (fun w => cv_int (Tryd.underlying5) (Tryd.underlying21) (r := 39) (by decide))) rfl rfl rfl ?_; clear S a; intro a S
 refine l_pure S (p_eql rfl rfl) rfl rfl rfl ?_; clear S a; intro a S
 refine l_pure S (p_move rfl) rfl rfl rfl ?_; clear S a; intro a S
 refine l_on S rfl rfl rfl rfl rfl ?_
 refine l_pure S (p_move rfl) rfl rfl rfl ?_; clear S a; intro a S
 refine l_on S rfl rfl rfl rfl rfl ?_
 refine l_pure S (p_eql rfl rfl) rfl rfl rfl ?_; clear S a; intro a S
 refine l_pure S (p_pick_f rfl rfl rfl) rfl rfl rfl ?_; clear S a; intro a S
 refine l_nil ?_
 refine e_then ?_
 refine c_cond (b := false) S rfl (fun h => by cases h) (fun _ => ?_)
 refine wp_skip ?_
 refine e_then ?_
 refine wp_seq ?_
 refine wp_seq ?_
 refine c_region ?_
 refine l_pure S (p_move rfl) rfl rfl rfl ?_; clear S a; intro a S
 refine l_nil ?_
 refine e_then ?_
 refine c_cond (b := false) S rfl (fun h => by cases h) (fun _ => ?_)
 refine wp_seq ?_
 refine c_region ?_
 refine l_pure S (p_move rfl) rfl rfl rfl ?_; clear S a; intro a S
 refine l_call S rfl rfl Tryd.func78 rfl rfl (isPrint_ _ 44 (by decide) (by decide)) rfl rfl rfl ?_
 rintro e w ⟨rfl, hb⟩
 refine ⟨_, rfl, ?_⟩; clear S a; intro a S
 replace H := H.later hb; clear hb
 rw [show decide ((32 : Int) ≤ 44) = true by decide] at S
 refine l_pure S (p_move rfl) rfl rfl rfl ?_; clear S a; intro a S
 refine l_off S rfl rfl rfl rfl rfl rfl rfl ?_; clear S a; intro a S
 refine l_off S rfl rfl rfl rfl rfl rfl rfl ?_; clear S a; intro a S
 refine l_offU S rfl rfl rfl rfl rfl rfl ?_; clear S a; intro a S
 refine l_offU S rfl rfl rfl rfl rfl rfl ?_; clear S a; intro a S
 refine l_off S rfl rfl rfl rfl rfl rfl rfl ?_; clear S a; intro a S
 refine l_pure S (p_pick_t rfl rfl rfl) rfl rfl rfl ?_; clear S a; intro a S
 refine l_nil ?_
 refine e_then ?_
 refine c_cond (b := true) S rfl (fun _ => ?_) (fun h => by cases h)
 refine wp_seq ?_
 refine c_region ?_
 refine l_pure S (p_move rfl) rfl rfl rfl ?_; clear S a; intro a S
 refine l_pure S (p_move rfl) rfl rfl rfl ?_; clear S a; intro a S
 have hcon := appRune_ wb _ B L0 E A c xs 44 (by decide) hOw H hx
 refine l_call S rfl rfl Tryd.func80 rfl rfl (hcon) rfl rfl rfl ?_
 rintro e w ⟨A1, c1, E1, rfl, hOw1, hH⟩
 refine ⟨_, rfl, ?_⟩; clear S a; intro a S
 clear H hcon; have H := hH; clear hH
 refine l_pure S (p_assign rfl) rfl rfl rfl ?_; clear S a; intro a S
 refine l_nil ?_
 refine e_then ?_
 refine wp_ret ?_
 refine e_then_ret ?_
 have hl : (xs ++ [((44 : Nat) : Int)]) = xs ++ [44] := by simp [ints]
 rw [hl] at S hOw1
 exact r_ret1 S rfl rfl ⟨_, _, E1, rfl, hOw1, H⟩
theorem esc61_ (wb w0 : World) (B : Nat) (L0 : List (Nat × Obj)) (E : List (Nat × Obj)) (A : Option Addr) (c : Nat) (xs : List Int) (hOw : OwnB 5 (.slice A xs.length c) xs E) (H : HH B wb w0 (E ++ L0)) (hx : xs.length ≤ 100000) : Calls Tryd.prog 77 #[.slice A xs.length c, .int .i32 61, .int .u8 39, .bool false, .bool false] w0 fun e w' => ∃ A' c' E', e = .returned (.slice A' (xs ++ [61]).length c') ∧ OwnB 5 (.slice A' (xs ++ [61]).length c') (xs ++ [61]) E' ∧ HH B wb w' (E' ++ L0) := by
 refine c_enter (args := [.slice A xs.length c, .int .i32 61, .int .u8 39, .bool false, .bool false]) (k := 140) Tryd.func77 rfl rfl rfl (fun a S => ?_)
 refine wp_seq ?_
 refine c_region ?_
 refine l_pure S (p_assign rfl) rfl rfl rfl ?_; clear S a; intro a S
 refine l_nil ?_
 refine e_then ?_
 refine wp_seq ?_
 refine wp_seq ?_
 refine c_region ?_
 refine l_pure S (p_move rfl) rfl rfl rfl ?_; clear S a; intro a S
 refine l_pure S (p_move rfl) rfl rfl rfl ?_; clear S a; intro a S
 refine l_pure S (p_conv rfl (fun w => cv_int (Tryd.underlying5) (Tryd.underlying21) (r := 39) (by decide))) rfl rfl rfl ?_; clear S a; intro a S
 refine l_pure S (p_eql rfl rfl) rfl rfl rfl ?_; clear S a; intro a S
 refine l_pure S (p_move rfl) rfl rfl rfl ?_; clear S a; intro a S
 refine l_on S rfl rfl rfl rfl rfl ?_
 refine l_pure S (p_move rfl) rfl rfl rfl ?_; clear S a; intro a S
 refine l_on S rfl rfl rfl rfl rfl ?_
 refine l_pure S (p_eql rfl rfl) rfl rfl rfl ?_; clear S a; intro a S
 refine l_pure S (p_pick_f rfl rfl rfl) rfl rfl rfl ?_; clear S a; intro a S
 refine l_nil ?_
 refine e_then ?_
 refine c_cond (b := false) S rfl (fun h => by cases h) (fun _ => ?_)
 refine wp_skip ?_
 refine e_then ?_
 refine wp_seq ?_
 refine wp_seq ?_
 refine c_region ?_
 refine l_pure S (p_move rfl) rfl rfl rfl ?_; clear S a; intro a S
 refine l_nil ?_
 refine e_then ?_
 refine c_cond (b := false) S rfl (fun h => by cases h) (fun _ => ?_)
 refine wp_seq ?_
 refine c_region ?_
 refine l_pure S (p_move rfl) rfl rfl rfl ?_; clear S a; intro a S
 refine l_call S rfl rfl Tryd.func78 rfl rfl (isPrint_ _ 61 (by decide) (by decide)) rfl rfl rfl ?_
 rintro e w ⟨rfl, hb⟩
 refine ⟨_, rfl, ?_⟩; clear S a; intro a S
 replace H := H.later hb; clear hb
 rw [show decide ((32 : Int) ≤ 61) = true by decide] at S
 refine l_pure S (p_move rfl) rfl rfl rfl ?_; clear S a; intro a S
 refine l_off S rfl rfl rfl rfl rfl rfl rfl ?_; clear S a; intro a S
 refine l_off S rfl rfl rfl rfl rfl rfl rfl ?_; clear S a; intro a S
 refine l_offU S rfl rfl rfl rfl rfl rfl ?_; clear S a; intro a S
 refine l_offU S rfl rfl rfl rfl rfl rfl ?_; clear S a; intro a S
 refine l_off S rfl rfl rfl rfl rfl rfl rfl ?_; clear S a; intro a S
 refine l_pure S (p_pick_t rfl rfl rfl) rfl rfl rfl ?_; clear S a; intro a S
 refine l_nil ?_
 refine e_then ?_
 refine c_cond (b := true) S rfl (fun _ => ?_) (fun h => by cases h)
 refine wp_seq ?_
 refine c_region ?_
 refine l_pure S (p_move rfl) rfl rfl rfl ?_; clear S a; intro a S
 refine l_pure S (p_move rfl) rfl rfl rfl ?_; clear S a; intro a S
 have hcon := appRune_ wb _ B L0 E A c xs 61 (by decide) hOw H hx
 refine l_call S rfl rfl Tryd.func80 rfl rfl (hcon) rfl rfl rfl ?_
 rintro e w ⟨A1, c1, E1, rfl, hOw1, hH⟩
 refine ⟨_, rfl, ?_⟩; clear S a; intro a S
 clear H hcon; have H := hH; clear hH
 refine l_pure S (p_assign rfl) rfl rfl rfl ?_; clear S a; intro a S
 refine l_nil ?_
 refine e_then ?_
 refine wp_ret ?_
 refine e_then_ret ?_
 have hl : (xs ++ [((61 : Nat) : Int)]) = xs ++ [61] := by simp [ints]
 rw [hl] at S hOw1
 exact r_ret1 S rfl rfl ⟨_, _, E1, rfl, hOw1, H⟩
theorem esc92_ (wb w0 : World) (B : Nat) (L0 : List (Nat × Obj)) (E : List (Nat × Obj)) (A : Option Addr) (c : Nat) (xs : List Int) (hOw : OwnB 5 (.slice A xs.length c) xs E) (H : HH B wb w0 (E ++ L0)) (hx : xs.length ≤ 100000) : Calls Tryd.prog 77 #[.slice A xs.length c, .int .i32 92, .int .u8 39, .bool false, .bool false] w0 fun e w' => ∃ A' c' E', e = .returned (.slice A' (xs ++ [92, 92]).length c') ∧ OwnB 5 (.slice A' (xs ++ [92, 92]).length c') (xs ++ [92, 92]) E' ∧ HH B wb w' (E' ++ L0) := by
 refine c_enter (args := [.slice A xs.length c, .int .i32 92, .int .u8 39, .bool false, .bool false]) (k := 140) Tryd.func77 rfl rfl rfl (fun a S => ?_)
 refine wp_seq ?_
 refine c_region ?_
 refine l_pure S (p_assign rfl) rfl rfl rfl ?_; clear S a; intro a S
 refine l_nil ?_
 refine e_then ?_
 refine wp_seq ?_
 refine wp_seq ?_
 refine c_region ?_
 refine l_pure S (p_move rfl) rfl rfl rfl ?_; clear S a; intro a S
 refine l_pure S (p_move rfl) rfl rfl rfl ?_; clear S a; intro a S
 refine l_pure S (p_conv rfl (fun w => cv_int (Tryd.underlying5) (Tryd.underlying21) (r := 39) (by decide))) rfl rfl rfl ?_; clear S a; intro a S
 refine l_pure S (p_eql rfl rfl) rfl rfl rfl ?_; clear S a; intro a S
 refine l_pure S (p_move rfl) rfl rfl rfl ?_; clear S a; intro a S
 refine l_on S rfl rfl rfl rfl rfl ?_
 refine l_pure S (p_move rfl) rfl rfl rfl ?_; clear S a; intro a S
 refine l_on S rfl rfl rfl rfl rfl ?_
 refine l_pure S (p_eql rfl rfl) rfl rfl rfl ?_; clear S a; intro a S
 refine l_pure S (p_pick_f rfl rfl rfl) rfl rfl rfl ?_; clear S a; intro a S
 refine l_nil ?_
 refine e_then ?_
 refine c_cond (b := true) S rfl (fun _ => ?_) (fun h => by cases h)
 refine wp_seq ?_
 refine c_region ?_
 refine l_pure S (p_move rfl) rfl rfl rfl ?_; clear S a; intro a S
 refine l_lit [(.const (.int .u8 92))] S H rfl rfl Tryd.underlying32 sz5 zv5 rfl rfl (by simp [Value.cells]) rfl rfl rfl ?_; clear S a H; intro g4 w a H S
 refine l_ownB [_] (r := [92]) S H rfl rfl rfl hOw (src_lit (vs := ([92]).map (Value.int .u8)) H List.mem_cons_self Tryd.underlying32 (by simp [Value.oneCell'])) Tryd.underlying32 in5 rfl (by simp only [List.length_cons, List.length_nil, List.length_append]; omega) (by decide) rfl rfl rfl ?_; clear S a H; intro Aow5 cow5 ow5 w a how5 H S; replace H := H.tail
 refine l_pure S (p_assign rfl) rfl rfl rfl ?_; clear S a; intro a S
 refine l_nil ?_
 refine e_then ?_
 refine wp_seq ?_
 refine c_region ?_
 refine l_pure S (p_move rfl) rfl rfl rfl ?_; clear S a; intro a S
 refine l_pure S (p_move rfl) rfl rfl rfl ?_; clear S a; intro a S
 refine l_pure S (p_conv rfl (fun w => cv_int (Tryd.underlying21) (Tryd.underlying5) (r := 92) (by decide))) rfl rfl rfl ?_; clear S a; intro a S
 refine l_lit [(.tmp 26)] S H rfl rfl Tryd.underlying32 sz5 zv5 rfl rfl (by simp [Value.cells]) rfl rfl rfl ?_; clear S a H; intro g6 w a H S
 refine l_ownB [_] (r := [92]) S H rfl rfl rfl how5 (src_lit (vs := ([92]).map (Value.int .u8)) H List.mem_cons_self Tryd.underlying32 (by simp [Value.oneCell'])) Tryd.underlying32 in5 rfl (by simp only [List.length_cons, List.length_nil, List.length_append]; omega) (by decide) rfl rfl rfl ?_; clear S a H; intro Aow7 cow7 ow7 w a how7 H S; replace H := H.tail
 refine l_pure S (p_assign rfl) rfl rfl rfl ?_; clear S a; intro a S
 refine l_nil ?_
 refine e_then ?_
 refine wp_seq ?_
 refine c_region ?_
 refine l_pure S (p_move rfl) rfl rfl rfl ?_; clear S a; intro a S
 refine l_pure S (p_assign rfl) rfl rfl rfl ?_; clear S a; intro a S
 refine l_nil ?_
 refine e_then ?_
 refine wp_ret ?_
 refine e_then_ret ?_
 have hl : ((xs ++ [92]) ++ [92]) = xs ++ [92, 92] := by simp [ints]
 rw [hl] at S how7
 exact r_ret1 S rfl rfl ⟨_, _, ow7, rfl, how7, H⟩
theorem esc34_ (wb w0 : World) (B : Nat) (L0 : List (Nat × Obj)) (E : List (Nat × Obj)) (A : Option Addr) (c : Nat) (xs : List Int) (hOw : OwnB 5 (.slice A xs.length c) xs E) (H : HH B wb w0 (E ++ L0)) (hx : xs.length ≤ 100000) : Calls Tryd.prog 77 #[.slice A xs.length c, .int .i32 34, .int .u8 39, .bool false, .bool false] w0 fun e w' => ∃ A' c' E', e = .returned (.slice A' (xs ++ [34]).length c') ∧ OwnB 5 (.slice A' (xs ++ [34]).length c') (xs ++ [34]) E' ∧ HH B wb w' (E' ++ L0) := by
 refine c_enter (args := [.slice A xs.length c, .int .i32 34, .int .u8 39, .bool false, .bool false]) (k := 140) Tryd.func77 rfl rfl rfl (fun a S => ?_)
 refine wp_seq ?_
 refine c_region ?_
 refine l_pure S (p_assign rfl) rfl rfl rfl ?_; clear S a; intro a S
 refine l_nil ?_
 refine e_then ?_
 refine wp_seq ?_
 refine wp_seq ?_
 refine c_region ?_
 refine l_pure S (p_move rfl) rfl rfl rfl ?_; clear S a; intro a S
 refine l_pure S (p_move rfl) rfl rfl rfl ?_; clear S a; intro a S
 refine l_pure S (p_conv rfl (fun w => cv_int (Tryd.underlying5) (Tryd.underlying21) (r := 39) (by decide))) rfl rfl rfl ?_; clear S a; intro a S
 refine l_pure S (p_eql rfl rfl) rfl rfl rfl ?_; clear S a; intro a S
 refine l_pure S (p_move rfl) rfl rfl rfl ?_; clear S a; intro a S
 refine l_on S rfl rfl rfl rfl rfl ?_
 refine l_pure S (p_move rfl) rfl rfl rfl ?_; clear S a; intro a S
 refine l_on S rfl rfl rfl rfl rfl ?_
 refine l_pure S (p_eql rfl rfl) rfl rfl rfl ?_; clear S a; intro a S
 refine l_pure S (p_pick_f rfl rfl rfl) rfl rfl rfl ?_; clear S a; intro a S
 refine l_nil ?_
 refine e_then ?_
 refine c_cond (b := false) S rfl (fun h => by cases h) (fun _ => ?_)
 refine wp_skip ?_
 refine e_then ?_
 refine wp_seq ?_
 refine wp_seq ?_
 refine c_region ?_
 refine l_pure S (p_move rfl) rfl rfl rfl ?_; clear S a; intro a S
 refine l_nil ?_
 refine e_then ?_
 refine c_cond (b := false) S rfl (fun h => by cases h) (fun _ => ?_)
 refine wp_seq ?_
 refine c_region ?_
 refine l_pure S (p_move rfl) rfl rfl rfl ?_; clear S a; intro a S
 refine l_call S rfl rfl Tryd.func78 rfl rfl (isPrint_ _ 34 (by decide) (by decide)) rfl rfl rfl ?_
 rintro e w ⟨rfl, hb⟩
 refine ⟨_, rfl, ?_⟩; clear S a; intro a S
 replace H := H.later hb; clear hb
 rw [show decide ((32 : Int) ≤ 34) = true by decide] at S
 refine l_pure S (p_move rfl) rfl rfl rfl ?_; clear S a; intro a S
 refine l_off S rfl rfl rfl rfl rfl rfl rfl ?_; clear S a; intro a S
 refine l_off S rfl rfl rfl rfl rfl rfl rfl ?_; clear S a; intro a S
 refine l_offU S rfl rfl rfl rfl rfl rfl ?_; clear S a; intro a S
 refine l_offU S rfl rfl rfl rfl rfl rfl ?_; clear S a; intro a S
 refine l_off S rfl rfl rfl rfl rfl rfl rfl ?_; clear S a; intro a S
 refine l_pure S (p_pick_t rfl rfl rfl) rfl rfl rfl ?_; clear S a; intro a S
 refine l_nil ?_
 refine e_then ?_
 refine c_cond (b := true) S rfl (fun _ => ?_) (fun h => by cases h)
 refine wp_seq ?_
 refine c_region ?_
 refine l_pure S (p_move rfl) rfl rfl rfl ?_; clear S a; intro a S
 refine l_pure S (p_move rfl) rfl rfl rfl ?_; clear S a; intro a S
 have hcon := appRune_ wb _ B L0 E A c xs 34 (by decide) hOw H hx
 refine l_call S rfl rfl Tryd.func80 rfl rfl (hcon) rfl rfl rfl ?_
 rintro e w ⟨A1, c1, E1, rfl, hOw1, hH⟩
 refine ⟨_, rfl, ?_⟩; clear S a; intro a S
 clear H hcon; have H := hH; clear hH
 refine l_pure S (p_assign rfl) rfl rfl rfl ?_; clear S a; intro a S
 refine l_nil ?_
 refine e_then ?_
 refine wp_ret ?_
 refine e_then_ret ?_
 have hl : (xs ++ [((34 : Nat) : Int)]) = xs ++ [34] := by simp [ints]
 rw [hl] at S hOw1
 exact r_ret1 S rfl rfl ⟨_, _, E1, rfl, hOw1, H⟩
theorem esc10_ (wb w0 : World) (B : Nat) (L0 : List (Nat × Obj)) (E : List (Nat × Obj)) (A : Option Addr) (c : Nat) (xs : List Int) (hOw : OwnB 5 (.slice A xs.length c) xs E) (H : HH B wb w0 (E ++ L0)) (hx : xs.length ≤ 100000) : Calls Tryd.prog 77 #[.slice A xs.length c, .int .i32 10, .int .u8 39, .bool false, .bool false] w0 fun e w' => ∃ A' c' E', e = .returned (.slice A' (xs ++ [92, 110]).length c') ∧ OwnB 5 (.slice A' (xs ++ [92, 110]).length c') (xs ++ [92, 110]) E' ∧ HH B wb w' (E' ++ L0) := by
 refine c_enter (args := [.slice A xs.length c, .int .i32 10, .int .u8 39, .bool false, .bool false]) (k := 140) Tryd.func77 rfl rfl rfl (fun a S => ?_)
 refine wp_seq ?_
 refine c_region ?_
 refine l_pure S (p_assign rfl) rfl rfl rfl ?_; clear S a; intro a S
 refine l_nil ?_
 refine e_then ?_
 refine wp_seq ?_
 refine wp_seq ?_
 refine c_region ?_
 refine l_pure S (p_move rfl) rfl rfl rfl ?_; clear S a; intro a S
 refine l_pure S (p_move rfl) rfl rfl rfl ?_; clear S a; intro a S
 refine l_pure S (p_conv rfl (fun w => cv_int (Tryd.underlying5) (Tryd.underlying21) (r := 39) (by decide))) rfl rfl rfl ?_; clear S a; intro a S
 refine l_pure S (p_eql rfl rfl) rfl rfl rfl ?_; clear S a; intro a S
 refine l_pure S (p_move rfl) rfl rfl rfl ?_; clear S a; intro a S
 refine l_on S rfl rfl rfl rfl rfl ?_
 refine l_pure S (p_move rfl) rfl rfl rfl ?_; clear S a; intro a S
 refine l_on S rfl rfl rfl rfl rfl ?_
 refine l_pure S (p_eql rfl rfl) rfl rfl rfl ?_; clear S a; intro a S
 refine l_pure S (p_pick_f rfl rfl rfl) rfl rfl rfl ?_; clear S a; intro a S
 refine l_nil ?_
 refine e_then ?_
 refine c_cond (b := false) S rfl (fun h => by cases h) (fun _ => ?_)
 refine wp_skip ?_
 refine e_then ?_
 refine wp_seq ?_
 refine wp_seq ?_
 refine c_region ?_
 refine l_pure S (p_move rfl) rfl rfl rfl ?_; clear S a; intro a S
 refine l_nil ?_
 refine e_then ?_
 refine c_cond (b := false) S rfl (fun h => by cases h) (fun _ => ?_)
 refine wp_seq ?_
 refine c_region ?_
 refine l_pure S (p_move rfl) rfl rfl rfl ?_; clear S a; intro a S
 refine l_call S rfl rfl Tryd.func78 rfl rfl (isPrint_ _ 10 (by decide) (by decide)) rfl rfl rfl ?_
 rintro e w ⟨rfl, hb⟩
 refine ⟨_, rfl, ?_⟩; clear S a; intro a S
 replace H := H.later hb; clear hb
 rw [show decide ((32 : Int) ≤ 10) = false by decide] at S
 refine l_pure S (p_move rfl) rfl rfl rfl ?_; clear S a; intro a S
 refine l_on S rfl rfl rfl rfl rfl ?_
 refine l_pure S (p_move rfl) rfl rfl rfl ?_; clear S a; intro a S
 refine l_on S rfl rfl rfl rfl rfl ?_
 refine l_pure S (p_move rfl) rfl rfl rfl ?_; clear S a; intro a S
 refine l_off S rfl rfl rfl rfl rfl rfl rfl ?_; clear S a; intro a S
 refine l_off S rfl rfl rfl rfl rfl rfl rfl ?_; clear S a; intro a S
 refine l_on S rfl rfl rfl rfl rfl ?_
 refine l_pure S (p_pick_f rfl rfl rfl) rfl rfl rfl ?_; clear S a; intro a S
 refine l_pure S (p_pick_f rfl rfl rfl) rfl rfl rfl ?_; clear S a; intro a S
 refine l_nil ?_
 refine e_then ?_
 refine c_cond (b := false) S rfl (fun h => by cases h) (fun _ => ?_)
 refine wp_skip ?_
 refine e_then ?_
 refine wp_seq ?_
 refine wp_seq ?_
 refine c_region ?_
 refine l_pure S (p_move rfl) rfl rfl rfl ?_; clear S a; intro a S
 refine l_nil ?_
 refine e_then ?_
 refine wp_block ?_
 refine wp_seq ?_
 refine c_region ?_
 refine l_pure S (p_eql rfl rfl) rfl rfl rfl ?_; clear S a; intro a S
 refine l_pure S (p_assign rfl) rfl rfl rfl ?_; clear S a; intro a S
 refine l_nil ?_
 refine e_then ?_
 refine c_cond (b := false) S rfl (fun h => by cases h) (fun _ => ?_)
 refine wp_seq ?_
 refine c_region ?_
 refine l_pure S (p_eql rfl rfl) rfl rfl rfl ?_; clear S a; intro a S
 refine l_pure S (p_assign rfl) rfl rfl rfl ?_; clear S a; intro a S
 refine l_nil ?_
 refine e_then ?_
 refine c_cond (b := false) S rfl (fun h => by cases h) (fun _ => ?_)
 refine wp_seq ?_
 refine c_region ?_
 refine l_pure S (p_eql rfl rfl) rfl rfl rfl ?_; clear S a; intro a S
 refine l_pure S (p_assign rfl) rfl rfl rfl ?_; clear S a; intro a S
 refine l_nil ?_
 refine e_then ?_
 refine c_cond (b := false) S rfl (fun h => by cases h) (fun _ => ?_)
 refine wp_seq ?_
 refine c_region ?_
 refine l_pure S (p_eql rfl rfl) rfl rfl rfl ?_; clear S a; intro a S
 refine l_pure S (p_assign rfl) rfl rfl rfl ?_; clear S a; intro a S
 refine l_nil ?_
 refine e_then ?_
 refine c_cond (b := true) S rfl (fun _ => ?_) (fun h => by cases h)
 refine c_region ?_
 refine l_pure S (p_move rfl) rfl rfl rfl ?_; clear S a; intro a S
 refine l_ownB [] (r := (ints ⟨#[92, 110]⟩)) S H rfl rfl rfl hOw (src_str Tryd.underlying9 ⟨#[92, 110]⟩) Tryd.underlying32 in5 rfl (by rw [ints_len]; first | (simp [ByteArray.size]; omega) | omega) (by decide) rfl rfl rfl ?_; clear S a H; intro Aow18 cow18 ow18 w a how18 H S
 refine l_pure S (p_assign rfl) rfl rfl rfl ?_; clear S a; intro a S
 refine l_nil ?_
 refine e_in 0 ?_
 refine e_then ?_
 refine wp_seq ?_
 refine c_region ?_
 refine l_pure S (p_move rfl) rfl rfl rfl ?_; clear S a; intro a S
 refine l_pure S (p_assign rfl) rfl rfl rfl ?_; clear S a; intro a S
 refine l_nil ?_
 refine e_then ?_
 refine wp_ret ?_
 have hl : (xs ++ (ints ⟨#[92, 110]⟩)) = xs ++ [92, 110] := by simp [ints]
 rw [hl] at S how18
 exact r_ret1 S rfl rfl ⟨_, _, ow18, rfl, how18, H⟩
theorem esc13_ (wb w0 : World) (B : Nat) (L0 : List (Nat × Obj)) (E : List (Nat × Obj)) (A : Option Addr) (c : Nat) (xs : List Int) (hOw : OwnB 5 (.slice A xs.length c) xs E) (H : HH B wb w0 (E ++ L0)) (hx : xs.length ≤ 100000) : Calls Tryd.prog 77 #[.slice A xs.length c, .int .i32 13, .int .u8 39, .bool false, .bool false] w0 fun e w' => ∃ A' c' E', e = .returned (.slice A' (xs ++ [92, 114]).length c') ∧ OwnB 5 (.slice A' (xs ++ [92, 114]).length c') (xs ++ [92, 114]) E' ∧ HH B wb w' (E' ++ L0) := by
 refine c_enter (args := [.slice A xs.length c, .int .i32 13, .int .u8 39, .bool false, .bool false]) (k := 140) Tryd.func77 rfl rfl rfl (fun a S => ?_)
 refine wp_seq ?_
 refine c_region ?_
 refine l_pure S (p_assign rfl) rfl rfl rfl ?_; clear S a; intro a S
 refine l_nil ?_
 refine e_then ?_
 refine wp_seq ?_
 refine wp_seq ?_
 refine c_region ?_
 refine l_pure S (p_move rfl) rfl rfl rfl ?_; clear S a; intro a S
 refine l_pure S (p_move rfl) rfl rfl rfl ?_; clear S a; intro a S
 refine l_pure S (p_conv rfl (fun w => cv_int (Tryd.underlying5) (Tryd.underlying21) (r := 39) (by decide))) rfl rfl rfl ?_; clear S a; intro a S
 refine l_pure S (p_eql rfl rfl) rfl rfl rfl ?_; clear S a; intro a S
 refine l_pure S (p_move rfl) rfl rfl rfl ?_; clear S a; intro a S
 refine l_on S rfl rfl rfl rfl rfl ?_
 refine l_pure S (p_move rfl) rfl rfl rfl ?_; clear S a; intro a S
 refine l_on S rfl rfl rfl rfl rfl ?_
 refine l_pure S (p_eql rfl rfl) rfl rfl rfl ?_; clear S a; intro a S
 refine l_pure S (p_pick_f rfl rfl rfl) rfl rfl rfl ?_; clear S a; intro a S
 refine l_nil ?_
 refine e_then ?_
 refine c_cond (b := false) S rfl (fun h => by cases h) (fun _ => ?_)
 refine wp_skip ?_
 refine e_then ?_
 refine wp_seq ?_
 refine wp_seq ?_
 refine c_region ?_
 refine l_pure S (p_move rfl) rfl rfl rfl ?_; clear S a; intro a S
 refine l_nil ?_
 refine e_then ?_
 refine c_cond (b := false) S rfl (fun h => by cases h) (fun _ => ?_)
 refine wp_seq ?_
 refine c_region ?_
 refine l_pure S (p_move rfl) rfl rfl rfl ?_; clear S a; intro a S
 refine l_call S rfl rfl Tryd.func78 rfl rfl (isPrint_ _ 13 (by decide) (by decide)) rfl rfl rfl ?_
 rintro e w ⟨rfl, hb⟩
 refine ⟨_, rfl, ?_⟩; clear S a; intro a S
 replace H := H.later hb; clear hb
 rw [show decide ((32 : Int) ≤ 13) = false by decide] at S
 refine l_pure S (p_move rfl) rfl rfl rfl ?_; clear S a; intro a S
 refine l_on S rfl rfl rfl rfl rfl ?_
 refine l_pure S (p_move rfl) rfl rfl rfl ?_; clear S a; intro a S
 refine l_on S rfl rfl rfl rfl rfl ?_
 refine l_pure S (p_move rfl) rfl rfl rfl ?_; clear S a; intro a S
 refine l_off S rfl rfl rfl rfl rfl rfl rfl ?_; clear S a; intro a S
 refine l_off S rfl rfl rfl rfl rfl rfl rfl ?_; clear S a; intro a S
 refine l_on S rfl rfl rfl rfl rfl ?_
 refine l_pure S (p_pick_f rfl rfl rfl) rfl rfl rfl ?_; clear S a; intro a S
 refine l_pure S (p_pick_f rfl rfl rfl) rfl rfl rfl ?_; clear S a; intro a S
 refine l_nil ?_
 refine e_then ?_
 refine c_cond (b := false) S rfl (fun h => by cases h) (fun _ => ?_)
 refine wp_skip ?_
 refine e_then ?_
 refine wp_seq ?_
 refine wp_seq ?_
 refine c_region ?_
 refine l_pure S (p_move rfl) rfl rfl rfl ?_; clear S a; intro a S
 refine l_nil ?_
 refine e_then ?_
 refine wp_block ?_
 refine wp_seq ?_
 refine c_region ?_
 refine l_pure S (p_eql rfl rfl) rfl rfl rfl ?_; clear S a; intro a S
 refine l_pure S (p_assign rfl) rfl rfl rfl ?_; clear S a; intro a S
 refine l_nil ?_
 refine e_then ?_
 refine c_cond (b := false) S rfl (fun h => by cases h) (fun _ => ?_)
 refine wp_seq ?_
 refine c_region ?_
 refine l_pure S (p_eql rfl rfl) rfl rfl rfl ?_; clear S a; intro a S
 refine l_pure S (p_assign rfl) rfl rfl rfl ?_; clear S a; intro a S
 refine l_nil ?_
 refine e_then ?_
 refine c_cond (b := false) S rfl (fun h => by cases h) (fun _ => ?_)
 refine wp_seq ?_
 refine c_region ?_
 refine l_pure S (p_eql rfl rfl) rfl rfl rfl ?_; clear S a; intro a S
 refine l_pure S (p_assign rfl) rfl rfl rfl ?_; clear S a; intro a S
 refine l_nil ?_
 refine e_then ?_
 refine c_cond (b := false) S rfl (fun h => by cases h) (fun _ => ?_)
 refine wp_seq ?_
 refine c_region ?_
 refine l_pure S (p_eql rfl rfl) rfl rfl rfl ?_; clear S a; intro a S
 refine l_pure S (p_assign rfl) rfl rfl rfl ?_; clear S a; intro a S
 refine l_nil ?_
 refine e_then ?_
 refine c_cond (b := false) S rfl (fun h => by cases h) (fun _ => ?_)
 refine wp_seq ?_
 refine c_region ?_
 refine l_pure S (p_eql rfl rfl) rfl rfl rfl ?_; clear S a; intro a S
 refine l_pure S (p_assign rfl) rfl rfl rfl ?_; clear S a; intro a S
 refine l_nil ?_
 refine e_then ?_
 refine c_cond (b := true) S rfl (fun _ => ?_) (fun h => by cases h)
 refine c_region ?_
 refine l_pure S (p_move rfl) rfl rfl rfl ?_; clear S a; intro a S
 refine l_ownB [] (r := (ints ⟨#[92, 114]⟩)) S H rfl rfl rfl hOw (src_str Tryd.underlying9 ⟨#[92, 114]⟩) Tryd.underlying32 in5 rfl (by rw [ints_len]; first | (simp [ByteArray.size]; omega) | omega) (by decide) rfl rfl rfl ?_; clear S a H; intro Aow20 cow20 ow20 w a how20 H S
 refine l_pure S (p_assign rfl) rfl rfl rfl ?_; clear S a; intro a S
 refine l_nil ?_
 refine e_in 0 ?_
 refine e_then ?_
 refine wp_seq ?_
 refine c_region ?_
 refine l_pure S (p_move rfl) rfl rfl rfl ?_; clear S a; intro a S
 refine l_pure S (p_assign rfl) rfl rfl rfl ?_; clear S a; intro a S
 refine l_nil ?_
 refine e_then ?_
 refine wp_ret ?_
 have hl : (xs ++ (ints ⟨#[92, 114]⟩)) = xs ++ [92, 114] := by simp [ints]
 rw [hl] at S how20
 exact r_ret1 S rfl rfl ⟨_, _, ow20, rfl, how20, H⟩
theorem esc9_ (wb w0 : World) (B : Nat) (L0 : List (Nat × Obj)) (E : List (Nat × Obj)) (A : Option Addr) (c : Nat) (xs : List Int) (hOw : OwnB 5 (.slice A xs.length c) xs E) (H : HH B wb w0 (E ++ L0)) (hx : xs.length ≤ 100000) : Calls Tryd.prog 77 #[.slice A xs.length c, .int .i32 9, .int .u8 39, .bool false, .bool false] w0 fun e w' => ∃ A' c' E', e = .returned (.slice A' (xs ++ [92, 116]).length c') ∧ OwnB 5 (.slice A' (xs ++ [92, 116]).length c') (xs ++ [92, 116]) E' ∧ HH B wb w' (E' ++ L0) := by
 refine c_enter (args := [.slice A xs.length c, .int .i32 9, .int .u8 39, .bool false, .bool false]) (k := 140) Tryd.func77 rfl rfl rfl (fun a S => ?_)
 refine wp_seq ?_
 refine c_region ?_
 refine l_pure S (p_assign rfl) rfl rfl rfl ?_; clear S a; intro a S
 refine l_nil ?_
 refine e_then ?_
 refine wp_seq ?_
 refine wp_seq ?_
 refine c_region ?_
 refine l_pure S (p_move rfl) rfl rfl rfl ?_; clear S a; intro a S
 refine l_pure S (p_move rfl) rfl rfl rfl ?_; clear S a; intro a S
 refine l_pure S (p_conv rfl (fun w => cv_int (Tryd.underlying5) (Tryd.underlying21) (r := 39) (by decide))) rfl rfl rfl ?_; clear S a; intro a S
 refine l_pure S (p_eql rfl rfl) rfl rfl rfl ?_; clear S a; intro a S
 refine l_pure S (p_move rfl) rfl rfl rfl ?_; clear S a; intro a S
 refine l_on S rfl rfl rfl rfl rfl ?_
 refine l_pure S (p_move rfl) rfl rfl rfl ?_; clear S a; intro a S
 refine l_on S rfl rfl rfl rfl rfl ?_
 refine l_pure S (p_eql rfl rfl) rfl rfl rfl ?_; clear S a; intro a S
 refine l_pure S (p_pick_f rfl rfl rfl) rfl rfl rfl ?_; clear S a; intro a S
 refine l_nil ?_
 refine e_then ?_
 refine c_cond (b := false) S rfl (fun h => by cases h) (fun _ => ?_)
 refine wp_skip ?_
 refine e_then ?_
 refine wp_seq ?_
 refine wp_seq ?_
 refine c_region ?_
 refine l_pure S (p_move rfl) rfl rfl rfl ?_; clear S a; intro a S
 refine l_nil ?_
 refine e_then ?_
 refine c_cond (b := false) S rfl (fun h => by cases h) (fun _ => ?_)
 refine wp_seq ?_
 refine c_region ?_
 refine l_pure S (p_move rfl) rfl rfl rfl ?_; clear S a; intro a S
 refine l_call S rfl rfl Tryd.func78 rfl rfl (isPrint_ _ 9 (by decide) (by decide)) rfl rfl rfl ?_
 rintro e w ⟨rfl, hb⟩
 refine ⟨_, rfl, ?_⟩; clear S a; intro a S
 replace H := H.later hb; clear hb
 rw [show decide ((32 : Int) ≤ 9) = false by decide] at S
 refine l_pure S (p_move rfl) rfl rfl rfl ?_; clear S a; intro a S
 refine l_on S rfl rfl rfl rfl rfl ?_
 refine l_pure S (p_move rfl) rfl rfl rfl ?_; clear S a; intro a S
 refine l_on S rfl rfl rfl rfl rfl ?_
 refine l_pure S (p_move rfl) rfl rfl rfl ?_; clear S a; intro a S
 refine l_off S rfl rfl rfl rfl rfl rfl rfl ?_; clear S a; intro a S
 refine l_off S rfl rfl rfl rfl rfl rfl rfl ?_; clear S a; intro a S
 refine l_on S rfl rfl rfl rfl rfl ?_
 refine l_pure S (p_pick_f rfl rfl rfl) rfl rfl rfl ?_; clear S a; intro a S
 refine l_pure S (p_pick_f rfl rfl rfl) rfl rfl rfl ?_; clear S a; intro a S
 refine l_nil ?_
 refine e_then ?_
 refine c_cond (b := false) S rfl (fun h => by cases h) (fun _ => ?_)
 refine wp_skip ?_
 refine e_then ?_
 refine wp_seq ?_
 refine wp_seq ?_
 refine c_region ?_
 refine l_pure S (p_move rfl) rfl rfl rfl ?_; clear S a; intro a S
 refine l_nil ?_
 refine e_then ?_
 refine wp_block ?_
 refine wp_seq ?_
 refine c_region ?_
 refine l_pure S (p_eql rfl rfl) rfl rfl rfl ?_; clear S a; intro a S
 refine l_pure S (p_assign rfl) rfl rfl rfl ?_; clear S a; intro a S
 refine l_nil ?_
 refine e_then ?_
 refine c_cond (b := false) S rfl (fun h => by cases h) (fun _ => ?_)
 refine wp_seq ?_
 refine c_region ?_
 refine l_pure S (p_eql rfl rfl) rfl rfl rfl ?_; clear S a; intro a S
 refine l_pure S (p_assign rfl) rfl rfl rfl ?_; clear S a; intro a S
 refine l_nil ?_
 refine e_then ?_
 refine c_cond (b := false) S rfl (fun h => by cases h) (fun _ => ?_)
 refine wp_seq ?_
 refine c_region ?_
 refine l_pure S (p_eql rfl rfl) rfl rfl rfl ?_; clear S a; intro a S
 refine l_pure S (p_assign rfl) rfl rfl rfl ?_; clear S a; intro a S
 refine l_nil ?_
 refine e_then ?_
 refine c_cond (b := false) S rfl (fun h => by cases h) (fun _ => ?_)
 refine wp_seq ?_
 refine c_region ?_
 refine l_pure S (p_eql rfl rfl) rfl rfl rfl ?_; clear S a; intro a S
 refine l_pure S (p_assign rfl) rfl rfl rfl ?_; clear S a; intro a S
 refine l_nil ?_
 refine e_then ?_
 refine c_cond (b := false) S rfl (fun h => by cases h) (fun _ => ?_)
 refine wp_seq ?_
 refine c_region ?_
 refine l_pure S (p_eql rfl rfl) rfl rfl rfl ?_; clear S a; intro a S
 refine l_pure S (p_assign rfl) rfl rfl rfl ?_; clear S a; intro a S
 refine l_nil ?_
 refine e_then ?_
 refine c_cond (b := false) S rfl (fun h => by cases h) (fun _ => ?_)
 refine wp_seq ?_
 refine c_region ?_
 refine l_pure S (p_eql rfl rfl) rfl rfl rfl ?_; clear S a; intro a S
 refine l_pure S (p_assign rfl) rfl rfl rfl ?_; clear S a; intro a S
 refine l_nil ?_
 refine e_then ?_
 refine c_cond (b := true) S rfl (fun _ => ?_) (fun h => by cases h)
 refine c_region ?_
 refine l_pure S (p_move rfl) rfl rfl rfl ?_; clear S a; intro a S
 refine l_ownB [] (r := (ints ⟨#[92, 116]⟩)) S H rfl rfl rfl hOw (src_str Tryd.underlying9 ⟨#[92, 116]⟩) Tryd.underlying32 in5 rfl (by rw [ints_len]; first | (simp [ByteArray.size]; omega) | omega) (by decide) rfl rfl rfl ?_; clear S a H; intro Aow22 cow22 ow22 w a how22 H S
 refine l_pure S (p_assign rfl) rfl rfl rfl ?_; clear S a; intro a S
 refine l_nil ?_
 refine e_in 0 ?_
 refine e_then ?_
 refine wp_seq ?_
 refine c_region ?_
 refine l_pure S (p_move rfl) rfl rfl rfl ?_; clear S a; intro a S
 refine l_pure S (p_assign rfl) rfl rfl rfl ?_; clear S a; intro a S
 refine l_nil ?_
 refine e_then ?_
 refine wp_ret ?_
 have hl : (xs ++ (ints ⟨#[92, 116]⟩)) = xs ++ [92, 116] := by simp [ints]
 rw [hl] at S how22
 exact r_ret1 S rfl rfl ⟨_, _, ow22, rfl, how22, H⟩
theorem esc_ (wb w0 : World) (B : Nat) (L0 : List (Nat × Obj)) (E : List (Nat × Obj)) (A : Option Addr) (c : Nat) (xs : List Int) (r : Nat) (hr : EscOk r) (hOw : OwnB 5 (.slice A xs.length c) xs E) (H : HH B wb w0 (E ++ L0)) (hx : xs.length ≤ 100000) : Calls Tryd.prog 77 #[.slice A xs.length c, .int .i32 (r : Int), .int .u8 39, .bool false, .bool false] w0 fun e w' => ∃ A' c' E', e = .returned (.slice A' (xs ++ escT r).length c') ∧ OwnB 5 (.slice A' (xs ++ escT r).length c') (xs ++ escT r) E' ∧ HH B wb w' (E' ++ L0) := by
 rcases hr with rfl | rfl | rfl | rfl | rfl | rfl | rfl | rfl
 ·
  exact esc32_ wb w0 B L0 E A c xs hOw H hx
 ·
  exact esc44_ wb w0 B L0 E A c xs hOw H hx
 ·
  exact esc61_ wb w0 B L0 E A c xs hOw H hx
 ·
  exact esc92_ wb w0 B L0 E A c xs hOw H hx
 ·
  exact esc34_ wb w0 B L0 E A c xs hOw H hx
 ·
  exact esc10_ wb w0 B L0 E A c xs hOw H hx
 ·
  exact esc13_ wb w0 B L0 E A c xs hOw H hx
 ·
  exact esc9_ wb w0 B L0 E A c xs hOw H hx
theorem appQuoted_ (wb w0 : World) (B : Nat) (L0 : List (Nat × Obj)) (r : Nat) (hr : EscOk r) (H : HH B wb w0 L0) : Calls Tryd.prog 74 #[.slice none 0 0, .int .i32 (r : Int), .int .u8 39, .bool false, .bool false] w0 fun e w' => ∃ A' c' E', e = .returned (.slice A' ([39] ++ escT r ++ [39]).length c') ∧ OwnB 5 (.slice A' ([39] ++ escT r ++ [39]).length c') ([39] ++ escT r ++ [39]) E' ∧ HH B wb w' (E' ++ L0) := by
 have H : HH B wb w0 (([] : List (Nat × Obj)) ++ L0) := H
 refine c_enter (args := [.slice none 0 0, .int .i32 (r : Int), .int .u8 39, .bool false, .bool false]) (k := 24) Tryd.func74 rfl rfl rfl (fun a S => ?_)
 refine wp_seq ?_
 refine c_region ?_
 refine l_pure S (p_assign rfl) rfl rfl rfl ?_; clear S a; intro a S
 refine l_nil ?_
 refine e_then ?_
 refine wp_seq ?_
 refine c_region ?_
 refine l_pure S (p_move rfl) rfl rfl rfl ?_; clear S a; intro a S
 refine l_pure S (p_move rfl) rfl rfl rfl ?_; clear S a; intro a S
 refine l_lit [(.tmp 12)] S H rfl rfl Tryd.underlying32 sz5 zv5 rfl rfl (by simp [Value.cells]) rfl rfl rfl ?_; clear S a H; intro g1 w a H S
 refine l_ownB [_] (r := [39]) S H rfl rfl rfl (ownB_nil 5) (src_lit (vs := ([39]).map (Value.int .u8)) H List.mem_cons_self Tryd.underlying32 (by simp [Value.oneCell'])) Tryd.underlying32 in5 rfl (by simp only [List.length_cons, List.length_nil, List.length_append]; omega) (by decide) rfl rfl rfl ?_; clear S a H; intro Aow2 cow2 ow2 w a how2 H S; replace H := H.tail
 refine l_pure S (p_assign rfl) rfl rfl rfl ?_; clear S a; intro a S
 refine l_nil ?_
 refine e_then ?_
 refine wp_seq ?_
 refine wp_seq ?_
 refine c_region ?_
 refine l_pure S (p_move rfl) rfl rfl rfl ?_; clear S a; intro a S
 refine l_call S rfl rfl Tryd.func76 rfl rfl (vrune_ _ (r : Int) (by omega) (by have := hr.lt; omega)) rfl rfl rfl ?_
 rintro e w ⟨rfl, hb⟩
 refine ⟨_, rfl, ?_⟩; clear S a; intro a S
 replace H := H.later hb; clear hb
 refine l_pure S (p_not rfl) rfl rfl rfl ?_; clear S a; intro a S
 refine l_nil ?_
 refine e_then ?_
 refine c_cond (b := false) S rfl (fun h => by cases h) (fun _ => ?_)
 refine wp_skip ?_
 refine e_then ?_
 refine wp_seq ?_
 refine c_region ?_
 refine l_pure S (p_move rfl) rfl rfl rfl ?_; clear S a; intro a S
 refine l_pure S (p_move rfl) rfl rfl rfl ?_; clear S a; intro a S
 refine l_pure S (p_move rfl) rfl rfl rfl ?_; clear S a; intro a S
 refine l_pure S (p_move rfl) rfl rfl rfl ?_; clear S a; intro a S
 refine l_pure S (p_move rfl) rfl rfl rfl ?_; clear S a; intro a S
 have hcon := esc_ wb _ B L0 ow2 Aow2 cow2 (([] : List Int) ++ [39]) r hr how2 H (by simp)
 refine l_call S rfl rfl Tryd.func77 rfl rfl (hcon) rfl rfl rfl ?_
 rintro e w ⟨A1, c1, E1, rfl, hOw1, hH⟩
 refine ⟨_, rfl, ?_⟩; clear S a; intro a S
 clear H hcon; have H := hH; clear hH
 have hel := escT_len r
 refine l_pure S (p_assign rfl) rfl rfl rfl ?_; clear S a; intro a S
 refine l_nil ?_
 refine e_then ?_
 refine wp_seq ?_
 refine c_region ?_
 refine l_pure S (p_move rfl) rfl rfl rfl ?_; clear S a; intro a S
 refine l_pure S (p_move rfl) rfl rfl rfl ?_; clear S a; intro a S
 refine l_lit [(.tmp 25)] S H rfl rfl Tryd.underlying32 sz5 zv5 rfl rfl (by simp [Value.cells]) rfl rfl rfl ?_; clear S a H; intro g8 w a H S
 refine l_ownB [_] (r := [39]) S H rfl rfl rfl hOw1 (src_lit (vs := ([39]).map (Value.int .u8)) H List.mem_cons_self Tryd.underlying32 (by simp [Value.oneCell'])) Tryd.underlying32 in5 rfl (by simp only [List.length_cons, List.length_nil, List.length_append]; omega) (by decide) rfl rfl rfl ?_; clear S a H; intro Aow9 cow9 ow9 w a how9 H S; replace H := H.tail
 refine l_pure S (p_assign rfl) rfl rfl rfl ?_; clear S a; intro a S
 refine l_nil ?_
 refine e_then ?_
 refine wp_seq ?_
 refine c_region ?_
 refine l_pure S (p_move rfl) rfl rfl rfl ?_; clear S a; intro a S
 refine l_pure S (p_assign rfl) rfl rfl rfl ?_; clear S a; intro a S
 refine l_nil ?_
 refine e_then ?_
 refine wp_ret ?_
 have hl : (((([] : List Int) ++ [39]) ++ escT r) ++ [39]) = [39] ++ escT r ++ [39] := by simp
 rw [hl] at S how9
 exact r_ret1 S rfl rfl ⟨_, _, ow9, rfl, how9, H⟩
theorem quoteWith_ (wb w0 : World) (B : Nat) (L0 : List (Nat × Obj)) (r : Nat) (hr : EscOk r) (H : HH B wb w0 L0) : Calls Tryd.prog 72 #[.int .i32 (r : Int), .int .u8 39, .bool false, .bool false] w0 fun e w' => e = .returned (.string (strOfNums ([39] ++ escT r ++ [39]))) ∧ HH B wb w' L0 := by
 refine c_enter (args := [.int .i32 (r : Int), .int .u8 39, .bool false, .bool false]) (k := 11) Tryd.func72 rfl rfl rfl (fun a S => ?_)
 refine wp_seq ?_
 refine c_region ?_
 refine l_pure S (p_assign rfl) rfl rfl rfl ?_; clear S a; intro a S
 refine l_nil ?_
 refine e_then ?_
 refine wp_seq ?_
 refine c_region ?_
 refine l_pure S (p_move rfl) rfl rfl rfl ?_; clear S a; intro a S
 refine l_pure S (p_move rfl) rfl rfl rfl ?_; clear S a; intro a S
 refine l_pure S (p_move rfl) rfl rfl rfl ?_; clear S a; intro a S
 refine l_pure S (p_move rfl) rfl rfl rfl ?_; clear S a; intro a S
 have hcon := appQuoted_ wb _ B L0 r hr H
 refine l_call S rfl rfl Tryd.func74 rfl rfl (hcon) rfl rfl rfl ?_
 rintro e w ⟨A1, c1, E1, rfl, hOw1, hH⟩
 refine ⟨_, rfl, ?_⟩; clear S a; intro a S
 clear H hcon; have H := hH; clear hH
 have hel := escT_len r
 refine l_str S rfl rfl Tryd.underlying32 Tryd.underlying5 Tryd.underlying9 (Own.bytes hOw1 H (by simp; omega)) rfl rfl rfl ?_; clear S a; intro a S
 refine l_pure S (p_assign rfl) rfl rfl rfl ?_; clear S a; intro a S
 refine l_nil ?_
 refine e_then ?_
 refine wp_ret ?_
 exact r_ret1 S rfl rfl ⟨rfl, H.bring⟩
theorem quoteRune_ (wb w0 : World) (B : Nat) (L0 : List (Nat × Obj)) (r : Nat) (hr : EscOk r) (H : HH B wb w0 L0) : Calls Tryd.prog 67 #[.int .i32 (r : Int)] w0 fun e w' => e = .returned (.string (strOfNums ([39] ++ escT r ++ [39]))) ∧ HH B wb w' L0 := by
 refine c_enter (args := [.int .i32 (r : Int)]) (k := 4) Tryd.func67 rfl rfl rfl (fun a S => ?_)
 refine wp_seq ?_
 refine c_region ?_
 refine l_pure S (p_assign rfl) rfl rfl rfl ?_; clear S a; intro a S
 refine l_nil ?_
 refine e_then ?_
 refine wp_seq ?_
 refine c_region ?_
 refine l_pure S (p_move rfl) rfl rfl rfl ?_; clear S a; intro a S
 have hcon := quoteWith_ wb _ B L0 r hr H
 refine l_call S rfl rfl Tryd.func72 rfl rfl (hcon) rfl rfl rfl ?_
 rintro e w ⟨rfl, hH⟩
 refine ⟨_, rfl, ?_⟩; clear S a; intro a S
 clear H hcon; have H := hH; clear hH
 refine l_pure S (p_assign rfl) rfl rfl rfl ?_; clear S a; intro a S
 refine l_nil ?_
 refine e_then ?_
 refine wp_ret ?_
 exact r_ret1 S rfl rfl ⟨rfl, H⟩
end ga
end Go.Proofs.YtbahngfpadjbhaaDoor.dec
