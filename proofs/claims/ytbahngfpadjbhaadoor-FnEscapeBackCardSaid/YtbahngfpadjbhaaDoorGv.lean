/- UTF-8 in rows of bytes. -/
import Derived.Test.YtbahngfpadjbhaaDoorTk
import Derived.Test.YtbahngfpadjbhaaDoorGm
namespace Go.Proofs.YtbahngfpadjbhaaDoor.dec
open Go.RowKit Go.Proofs.HHW Go.Proofs.YtbahngfpadjbhaaDoorW.PrintWords
set_option linter.unusedVariables false
set_option linter.unusedSimpArgs false
namespace gv
abbrev yy := true
abbrev nn := false
theorem ag5 : aggB Tryd.prog 5 = some false := by kernel_rfl
theorem ag83 : aggB Tryd.prog 83 = some true := by kernel_rfl
theorem fa83_0 (w : World) (g o : Nat) : (Instr.fieldAt 83 (.pointer (some ⟨g, o, none⟩)) 0).run Tryd.prog w = .ok (.pointer (some ⟨g, o + 0, none⟩)) w := by kernel_rfl
theorem fa83_1 (w : World) (g o : Nat) : (Instr.fieldAt 83 (.pointer (some ⟨g, o, none⟩)) 1).run Tryd.prog w = .ok (.pointer (some ⟨g, o + 1, none⟩)) w := by kernel_rfl
theorem sz5 : szB Tryd.prog 5 = some 1 := by kernel_rfl
theorem sz83 : szB Tryd.prog 83 = some 2 := by kernel_rfl
theorem zv83 : zvB Tryd.prog 83 = some (.agg #[.int .u8 0, .int .u8 0]) := by kernel_rfl

theorem word_ (w0 : World) (gq oq c : Nat) (l : List Int) (hR : RB w0 gq oq l) (h8 : 8 ≤ l.length) (hby : ∀ x ∈ l, 0 ≤ x ∧ x < 256) : Calls Tryd.prog 59 #[.slice (some ⟨gq, oq, none⟩) l.length c] w0 fun e w' => ∃ x : BitVec 64, e = .returned (.int .u64 (x.toNat : Int)) ∧ (∀ k, k < 8 → x.getLsbD (8 * k + 7) = decide (128 ≤ l.getD k 0)) ∧ Below w0.heap.size w0 w' := by
 have H := HH.start w0
 refine c_enter (args := [.slice (some ⟨gq, oq, none⟩) l.length c]) (k := 70) Tryd.func59 rfl rfl rfl (fun a S => ?_)
 refine wp_seq ?_
 refine c_region ?_
 refine l_pure S (p_assign rfl) rfl rfl rfl ?_; clear S a; intro a S
 refine l_nil ?_
 refine e_then ?_
 refine wp_seq ?_
 refine c_cond (b := false) S rfl (fun h => by cases h) (fun _ => ?_)
 refine wp_skip ?_
 refine e_then ?_
 refine wp_seq ?_
 refine d_start (id := 2) [] 47 #[nn,nn,nn,nn,nn,nn,nn,nn,nn,nn,nn,nn,nn,nn,nn,nn,nn,nn,nn,nn,nn,nn,nn,nn,nn,nn,nn,nn,nn,nn,nn,nn,nn,nn,nn,nn,nn,nn,nn,nn,nn,nn,nn,nn,nn,nn,nn] H rfl rfl rfl (fun w H => ?_)
 refine d_pure (i := 0) #[yy,nn,nn,nn,nn,nn,nn,nn,nn,nn,nn,nn,nn,nn,nn,nn,nn,nn,nn,nn,nn,nn,nn,nn,nn,nn,nn,nn,nn,nn,nn,nn,nn,nn,nn,nn,nn,nn,nn,nn,nn,nn,nn,nn,nn,nn,nn] S rfl (p_move rfl) (wanted_none rfl) rfl rfl (by kernel_rfl) (fun _ _ _ h => h) ?_; clear S a; intro a S
 refine d_pure (i := 1) #[yy,yy,nn,nn,nn,nn,nn,nn,nn,nn,nn,nn,nn,nn,nn,nn,nn,nn,nn,nn,nn,nn,nn,nn,nn,nn,nn,nn,nn,nn,nn,nn,nn,nn,nn,nn,nn,nn,nn,nn,nn,nn,nn,nn,nn,nn,nn] S rfl (p_indexAddr rfl rfl (fun w => ia_slice Tryd.underlying32 sz5 (by omega) (by omega))) (wanted_none rfl) rfl rfl (by kernel_rfl) (fun _ _ _ h => h) ?_; clear S a; intro a S
 refine d_read (i := 2) #[yy,yy,yy,nn,nn,nn,nn,nn,nn,nn,nn,nn,nn,nn,nn,nn,nn,nn,nn,nn,nn,nn,nn,nn,nn,nn,nn,nn,nn,nn,nn,nn,nn,nn,nn,nn,nn,nn,nn,nn,nn,nn,nn,nn,nn,nn,nn] S H rfl (r_byte (l := l) (i := 0) (v := ((BitVec.ofInt 8 (l.getD (0) 0)).toNat : Int)) rfl (by omega) ag5 hR rfl (bv8_get hby (show 0 < l.length by omega))) (wanted_none rfl) rfl rfl (by kernel_rfl) (fun _ _ _ h => h) ?_; clear S a; intro a S
 refine d_pure (i := 3) #[yy,yy,yy,yy,nn,nn,nn,nn,nn,nn,nn,nn,nn,nn,nn,nn,nn,nn,nn,nn,nn,nn,nn,nn,nn,nn,nn,nn,nn,nn,nn,nn,nn,nn,nn,nn,nn,nn,nn,nn,nn,nn,nn,nn,nn,nn,nn] S rfl (p_conv rfl (fun w => cv_int (Tryd.underlying5) (Tryd.underlying97) (w8to64 (BitVec.ofInt 8 (l.getD (0) 0))))) (wanted_none rfl) rfl rfl (by kernel_rfl) (fun _ _ _ h => h) ?_; clear S a; intro a S
 refine d_pure (i := 4) #[yy,yy,yy,yy,yy,nn,nn,nn,nn,nn,nn,nn,nn,nn,nn,nn,nn,nn,nn,nn,nn,nn,nn,nn,nn,nn,nn,nn,nn,nn,nn,nn,nn,nn,nn,nn,nn,nn,nn,nn,nn,nn,nn,nn,nn,nn,nn] S rfl (p_move rfl) (wanted_none rfl) rfl rfl (by kernel_rfl) (fun _ _ _ h => h) ?_; clear S a; intro a S
 refine d_pure (i := 5) #[yy,yy,yy,yy,yy,yy,nn,nn,nn,nn,nn,nn,nn,nn,nn,nn,nn,nn,nn,nn,nn,nn,nn,nn,nn,nn,nn,nn,nn,nn,nn,nn,nn,nn,nn,nn,nn,nn,nn,nn,nn,nn,nn,nn,nn,nn,nn] S rfl (p_indexAddr rfl rfl (fun w => ia_slice Tryd.underlying32 sz5 (by omega) (by omega))) (wanted_none rfl) rfl rfl (by kernel_rfl) (fun _ _ _ h => h) ?_; clear S a; intro a S
 refine d_read (i := 6) #[yy,yy,yy,yy,yy,yy,yy,nn,nn,nn,nn,nn,nn,nn,nn,nn,nn,nn,nn,nn,nn,nn,nn,nn,nn,nn,nn,nn,nn,nn,nn,nn,nn,nn,nn,nn,nn,nn,nn,nn,nn,nn,nn,nn,nn,nn,nn] S H rfl (r_byte (l := l) (i := 1) (v := ((BitVec.ofInt 8 (l.getD (1) 0)).toNat : Int)) rfl (by omega) ag5 hR rfl (bv8_get hby (show 1 < l.length by omega))) (wanted_none rfl) rfl rfl (by kernel_rfl) (fun _ _ _ h => h) ?_; clear S a; intro a S
 refine d_pure (i := 7) #[yy,yy,yy,yy,yy,yy,yy,yy,nn,nn,nn,nn,nn,nn,nn,nn,nn,nn,nn,nn,nn,nn,nn,nn,nn,nn,nn,nn,nn,nn,nn,nn,nn,nn,nn,nn,nn,nn,nn,nn,nn,nn,nn,nn,nn,nn,nn] S rfl (p_conv rfl (fun w => cv_int (Tryd.underlying5) (Tryd.underlying97) (w8to64 (BitVec.ofInt 8 (l.getD (1) 0))))) (wanted_none rfl) rfl rfl (by kernel_rfl) (fun _ _ _ h => h) ?_; clear S a; intro a S
 refine d_pure (i := 8) #[yy,yy,yy,yy,yy,yy,yy,yy,yy,nn,nn,nn,nn,nn,nn,nn,nn,nn,nn,nn,nn,nn,nn,nn,nn,nn,nn,nn,nn,nn,nn,nn,nn,nn,nn,nn,nn,nn,nn,nn,nn,nn,nn,nn,nn,nn,nn] S rfl (p_shl rfl rfl (by decide) (shl64 ((BitVec.ofInt 8 (l.getD (1) 0)).setWidth 64) (n := 8) rfl (by decide))) (wanted_none rfl) rfl rfl (by kernel_rfl) (fun _ _ _ h => h) ?_; clear S a; intro a S
 refine d_pure (i := 9) #[yy,yy,yy,yy,yy,yy,yy,yy,yy,yy,nn,nn,nn,nn,nn,nn,nn,nn,nn,nn,nn,nn,nn,nn,nn,nn,nn,nn,nn,nn,nn,nn,nn,nn,nn,nn,nn,nn,nn,nn,nn,nn,nn,nn,nn,nn,nn] S rfl (p_or rfl rfl (or64 ((BitVec.ofInt 8 (l.getD (0) 0)).setWidth 64) (((BitVec.ofInt 8 (l.getD (1) 0)).setWidth 64) <<< 8))) (wanted_none rfl) rfl rfl (by kernel_rfl) (fun _ _ _ h => h) ?_; clear S a; intro a S
 refine d_pure (i := 10) #[yy,yy,yy,yy,yy,yy,yy,yy,yy,yy,yy,nn,nn,nn,nn,nn,nn,nn,nn,nn,nn,nn,nn,nn,nn,nn,nn,nn,nn,nn,nn,nn,nn,nn,nn,nn,nn,nn,nn,nn,nn,nn,nn,nn,nn,nn,nn] S rfl (p_move rfl) (wanted_none rfl) rfl rfl (by kernel_rfl) (fun _ _ _ h => h) ?_; clear S a; intro a S
 refine d_pure (i := 11) #[yy,yy,yy,yy,yy,yy,yy,yy,yy,yy,yy,yy,nn,nn,nn,nn,nn,nn,nn,nn,nn,nn,nn,nn,nn,nn,nn,nn,nn,nn,nn,nn,nn,nn,nn,nn,nn,nn,nn,nn,nn,nn,nn,nn,nn,nn,nn] S rfl (p_indexAddr rfl rfl (fun w => ia_slice Tryd.underlying32 sz5 (by omega) (by omega))) (wanted_none rfl) rfl rfl (by kernel_rfl) (fun _ _ _ h => h) ?_; clear S a; intro a S
 refine d_read (i := 12) #[yy,yy,yy,yy,yy,yy,yy,yy,yy,yy,yy,yy,yy,nn,nn,nn,nn,nn,nn,nn,nn,nn,nn,nn,nn,nn,nn,nn,nn,nn,nn,nn,nn,nn,nn,nn,nn,nn,nn,nn,nn,nn,nn,nn,nn,nn,nn] S H rfl (r_byte (l := l) (i := 2) (v := ((BitVec.ofInt 8 (l.getD (2) 0)).toNat : Int)) rfl (by omega) ag5 hR rfl (bv8_get hby (show 2 < l.length by omega))) (wanted_none rfl) rfl rfl (by kernel_rfl) (fun _ _ _ h => h) ?_; clear S a; intro a S
 refine d_pure (i := 13) #[yy,yy,yy,yy,yy,yy,yy,yy,yy,yy,yy,yy,yy,yy,nn,nn,nn,nn,nn,nn,nn,nn,nn,nn,nn,nn,nn,nn,nn,nn,nn,nn,nn,nn,nn,nn,nn,nn,nn,nn,nn,nn,nn,nn,nn,nn,nn] S rfl (p_conv rfl (fun w => cv_int (Tryd.underlying5) (Tryd.underlying97) (w8to64 (BitVec.ofInt 8 (l.getD (2) 0))))) (wanted_none rfl) rfl rfl (by kernel_rfl) (fun _ _ _ h => h) ?_; clear S a; intro a S
 refine d_pure (i := 14) #[yy,yy,yy,yy,yy,yy,yy,yy,yy,yy,yy,yy,yy,yy,yy,nn,nn,nn,nn,nn,nn,nn,nn,nn,nn,nn,nn,nn,nn,nn,nn,nn,nn,nn,nn,nn,nn,nn,nn,nn,nn,nn,nn,nn,nn,nn,nn] S rfl (p_shl rfl rfl (by decide) (shl64 ((BitVec.ofInt 8 (l.getD (2) 0)).setWidth 64) (n := 16) rfl (by decide))) (wanted_none rfl) rfl rfl (by kernel_rfl) (fun _ _ _ h => h) ?_; clear S a; intro a S
 refine d_pure (i := 15) #[yy,yy,yy,yy,yy,yy,yy,yy,yy,yy,yy,yy,yy,yy,yy,yy,nn,nn,nn,nn,nn,nn,nn,nn,nn,nn,nn,nn,nn,nn,nn,nn,nn,nn,nn,nn,nn,nn,nn,nn,nn,nn,nn,nn,nn,nn,nn] S rfl (p_or rfl rfl (or64 (((BitVec.ofInt 8 (l.getD (0) 0)).setWidth 64) ||| (((BitVec.ofInt 8 (l.getD (1) 0)).setWidth 64) <<< 8)) (((BitVec.ofInt 8 (l.getD (2) 0)).setWidth 64) <<< 16))) (wanted_none rfl) rfl rfl (by kernel_rfl) (fun _ _ _ h => h) ?_; clear S a; intro a S
 refine d_pure (i := 16) #[yy,yy,yy,yy,yy,yy,yy,yy,yy,yy,yy,yy,yy,yy,yy,yy,yy,nn,nn,nn,nn,nn,nn,nn,nn,nn,nn,nn,nn,nn,nn,nn,nn,nn,nn,nn,nn,nn,nn,nn,nn,nn,nn,nn,nn,nn,nn] S rfl (p_move rfl) (wanted_none rfl) rfl rfl (by kernel_rfl) (fun _ _ _ h => h) ?_; clear S a; intro a S
 refine d_pure (i := 17) #[yy,yy,yy,yy,yy,yy,yy,yy,yy,yy,yy,yy,yy,yy,yy,yy,yy,yy,nn,nn,nn,nn,nn,nn,nn,nn,nn,nn,nn,nn,nn,nn,nn,nn,nn,nn,nn,nn,nn,nn,nn,nn,nn,nn,nn,nn,nn] S rfl (p_indexAddr rfl rfl (fun w => ia_slice Tryd.underlying32 sz5 (by omega) (by omega))) (wanted_none rfl) rfl rfl (by kernel_rfl) (fun _ _ _ h => h) ?_; clear S a; intro a S
 refine d_read (i := 18) #[yy,yy,yy,yy,yy,yy,yy,yy,yy,yy,yy,yy,yy,yy,yy,yy,yy,yy,yy,nn,nn,nn,nn,nn,nn,nn,nn,nn,nn,nn,nn,nn,nn,nn,nn,nn,nn,nn,nn,nn,nn,nn,nn,nn,nn,nn,nn] S H rfl (r_byte (l := l) (i := 3) (v := ((BitVec.ofInt 8 (l.getD (3) 0)).toNat : Int)) rfl (by omega) ag5 hR rfl (bv8_get hby (show 3 < l.length by omega))) (wanted_none rfl) rfl rfl (by kernel_rfl) (fun _ _ _ h => h) ?_; clear S a; intro a S
 refine d_pure (i := 19) #[yy,yy,yy,yy,yy,yy,yy,yy,yy,yy,yy,yy,yy,yy,yy,yy,yy,yy,yy,yy,nn,nn,nn,nn,nn,nn,nn,nn,nn,nn,nn,nn,nn,nn,nn,nn,nn,nn,nn,nn,nn,nn,nn,nn,nn,nn,nn] S rfl (p_conv rfl (fun w => cv_int (Tryd.underlying5) (Tryd.underlying97) (w8to64 (BitVec.ofInt 8 (l.getD (3) 0))))) (wanted_none rfl) rfl rfl (by kernel_rfl) (fun _ _ _ h => h) ?_; clear S a; intro a S
 refine d_pure (i := 20) #[yy,yy,yy,yy,yy,yy,yy,yy,yy,yy,yy,yy,yy,yy,yy,yy,yy,yy,yy,yy,yy,nn,nn,nn,nn,nn,nn,nn,nn,nn,nn,nn,nn,nn,nn,nn,nn,nn,nn,nn,nn,nn,nn,nn,nn,nn,nn] S rfl (p_shl rfl rfl (by decide) (shl64 ((BitVec.ofInt 8 (l.getD (3) 0)).setWidth 64) (n := 24) rfl (by decide))) (wanted_none rfl) rfl rfl (by kernel_rfl) (fun _ _ _ h => h) ?_; clear S a; intro a S
 refine d_pure (i := 21) #[yy,yy,yy,yy,yy,yy,yy,yy,yy,yy,yy,yy,yy,yy,yy,yy,yy,yy,yy,yy,yy,yy,nn,nn,nn,nn,nn,nn,nn,nn,nn,nn,nn,nn,nn,nn,nn,nn,nn,nn,nn,nn,nn,nn,nn,nn,nn] S rfl (p_or rfl rfl (or64 ((((BitVec.ofInt 8 (l.getD (0) 0)).setWidth 64) ||| (((BitVec.ofInt 8 (l.getD (1) 0)).setWidth 64) <<< 8)) ||| (((BitVec.ofInt 8 (l.getD (2) 0)).setWidth 64) <<< 16)) (((BitVec.ofInt 8 (l.getD (3) 0)).setWidth 64) <<< 24))) (wanted_none rfl) rfl rfl (by kernel_rfl) (fun _ _ _ h => h) ?_; clear S a; intro a S
 refine d_pure (i := 22) #[yy,yy,yy,yy,yy,yy,yy,yy,yy,yy,yy,yy,yy,yy,yy,yy,yy,yy,yy,yy,yy,yy,yy,nn,nn,nn,nn,nn,nn,nn,nn,nn,nn,nn,nn,nn,nn,nn,nn,nn,nn,nn,nn,nn,nn,nn,nn] S rfl (p_move rfl) (wanted_none rfl) rfl rfl (by kernel_rfl) (fun _ _ _ h => h) ?_; clear S a; intro a S
 refine d_pure (i := 23) #[yy,yy,yy,yy,yy,yy,yy,yy,yy,yy,yy,yy,yy,yy,yy,yy,yy,yy,yy,yy,yy,yy,yy,yy,nn,nn,nn,nn,nn,nn,nn,nn,nn,nn,nn,nn,nn,nn,nn,nn,nn,nn,nn,nn,nn,nn,nn] S rfl (p_indexAddr rfl rfl (fun w => ia_slice Tryd.underlying32 sz5 (by omega) (by omega))) (wanted_none rfl) rfl rfl (by kernel_rfl) (fun _ _ _ h => h) ?_; clear S a; intro a S
 refine d_read (i := 24) #[yy,yy,yy,yy,yy,yy,yy,yy,yy,yy,yy,yy,yy,yy,yy,yy,yy,yy,yy,yy,yy,yy,yy,yy,yy,nn,nn,nn,nn,nn,nn,nn,nn,nn,nn,nn,nn,nn,nn,nn,nn,nn,nn,nn,nn,nn,nn] S H rfl (r_byte (l := l) (i := 4) (v := ((BitVec.ofInt 8 (l.getD (4) 0)).toNat : Int)) rfl (by omega) ag5 hR rfl (bv8_get hby (show 4 < l.length by omega))) (wanted_none rfl) rfl rfl (by kernel_rfl) (fun _ _ _ h => h) ?_; clear S a; intro a S
 refine d_pure (i := 25) #[yy,yy,yy,yy,yy,yy,yy,yy,yy,yy,yy,yy,yy,yy,yy,yy,yy,yy,yy,yy,yy,yy,yy,yy,yy,yy,nn,nn,nn,nn,nn,nn,nn,nn,nn,nn,nn,nn,nn,nn,nn,nn,nn,nn,nn,nn,nn] S rfl (p_conv rfl (fun w => cv_int (Tryd.underlying5) (Tryd.underlying97) (w8to64 (BitVec.ofInt 8 (l.getD (4) 0))))) (wanted_none rfl) rfl rfl (by kernel_rfl) (fun _ _ _ h => h) ?_; clear S a; intro a S
 refine d_pure (i := 26) #[yy,yy,yy,yy,yy,yy,yy,yy,yy,yy,yy,yy,yy,yy,yy,yy,yy,yy,yy,yy,yy,yy,yy,yy,yy,yy,yy,nn,nn,nn,nn,nn,nn,nn,nn,nn,nn,nn,nn,nn,nn,nn,nn,nn,nn,nn,nn] S rfl (p_shl rfl rfl (by decide) (shl64 ((BitVec.ofInt 8 (l.getD (4) 0)).setWidth 64) (n := 32) rfl (by decide))) (wanted_none rfl) rfl rfl (by kernel_rfl) (fun _ _ _ h => h) ?_; clear S a; intro a S
 refine d_pure (i := 27) #[yy,yy,yy,yy,yy,yy,yy,yy,yy,yy,yy,yy,yy,yy,yy,yy,yy,yy,yy,yy,yy,yy,yy,yy,yy,yy,yy,yy,nn,nn,nn,nn,nn,nn,nn,nn,nn,nn,nn,nn,nn,nn,nn,nn,nn,nn,nn] S rfl (p_or rfl rfl (or64 (((((BitVec.ofInt 8 (l.getD (0) 0)).setWidth 64) ||| (((BitVec.ofInt 8 (l.getD (1) 0)).setWidth 64) <<< 8)) ||| (((BitVec.ofInt 8 (l.getD (2) 0)).setWidth 64) <<< 16)) ||| (((BitVec.ofInt 8 (l.getD (3) 0)).setWidth 64) <<< 24)) (((BitVec.ofInt 8 (l.getD (4) 0)).setWidth 64) <<< 32))) (wanted_none rfl) rfl rfl (by kernel_rfl) (fun _ _ _ h => h) ?_; clear S a; intro a S
 refine d_pure (i := 28) #[yy,yy,yy,yy,yy,yy,yy,yy,yy,yy,yy,yy,yy,yy,yy,yy,yy,yy,yy,yy,yy,yy,yy,yy,yy,yy,yy,yy,yy,nn,nn,nn,nn,nn,nn,nn,nn,nn,nn,nn,nn,nn,nn,nn,nn,nn,nn] S rfl (p_move rfl) (wanted_none rfl) rfl rfl (by kernel_rfl) (fun _ _ _ h => h) ?_; clear S a; intro a S
 refine d_pure (i := 29) #[yy,yy,yy,yy,yy,yy,yy,yy,yy,yy,yy,yy,yy,yy,yy,yy,yy,yy,yy,yy,yy,yy,yy,yy,yy,yy,yy,yy,yy,yy,nn,nn,nn,nn,nn,nn,nn,nn,nn,nn,nn,nn,nn,nn,nn,nn,nn] S rfl (p_indexAddr rfl rfl (fun w => ia_slice Tryd.underlying32 sz5 (by omega) (by omega))) (wanted_none rfl) rfl rfl (by kernel_rfl) (fun _ _ _ h => h) ?_; clear S a; intro a S
 refine d_read (i := 30) #[yy,yy,yy,yy,yy,yy,yy,yy,yy,yy,yy,yy,yy,yy,yy,yy,yy,yy,yy,yy,yy,yy,yy,yy,yy,yy,yy,yy,yy,yy,yy,nn,nn,nn,nn,nn,nn,nn,nn,nn,nn,nn,nn,nn,nn,nn,nn] S H rfl (r_byte (l := l) (i := 5) (v := ((BitVec.ofInt 8 (l.getD (5) 0)).toNat : Int)) rfl (by omega) ag5 hR rfl (bv8_get hby (show 5 < l.length by omega))) (wanted_none rfl) rfl rfl (by kernel_rfl) (fun _ _ _ h => h) ?_; clear S a; intro a S
 refine d_pure (i := 31) #[yy,yy,yy,yy,yy,yy,yy,yy,yy,yy,yy,yy,yy,yy,yy,yy,yy,yy,yy,yy,yy,yy,yy,yy,yy,yy,yy,yy,yy,yy,yy,yy,nn,nn,nn,nn,nn,nn,nn,nn,nn,nn,nn,nn,nn,nn,nn] S rfl (p_conv rfl (fun w => cv_int (Tryd.underlying5) (Tryd.underlying97) (w8to64 (BitVec.ofInt 8 (l.getD (5) 0))))) (wanted_none rfl) rfl rfl (by kernel_rfl) (fun _ _ _ h => h) ?_; clear S a; intro a S
 refine d_pure (i := 32) #[yy,yy,yy,yy,yy,yy,yy,yy,yy,yy,yy,yy,yy,yy,yy,yy,yy,yy,yy,yy,yy,yy,yy,yy,yy,yy,yy,yy,yy,yy,yy,yy,yy,nn,nn,nn,nn,nn,nn,nn,nn,nn,nn,nn,nn,nn,nn] S rfl (p_shl rfl rfl (by decide) (shl64 ((BitVec.ofInt 8 (l.getD (5) 0)).setWidth 64) (n := 40) rfl (by decide))) (wanted_none rfl) rfl rfl (by kernel_rfl) (fun _ _ _ h => h) ?_; clear S a; intro a S
 refine d_pure (i := 33) #[yy,yy,yy,yy,yy,yy,yy,yy,yy,yy,yy,yy,yy,yy,yy,yy,yy,yy,yy,yy,yy,yy,yy,yy,yy,yy,yy,yy,yy,yy,yy,yy,yy,yy,nn,nn,nn,nn,nn,nn,nn,nn,nn,nn,nn,nn,nn] S rfl (p_or rfl rfl (or64 ((((((BitVec.ofInt 8 (l.getD (0) 0)).setWidth 64) ||| (((BitVec.ofInt 8 (l.getD (1) 0)).setWidth 64) <<< 8)) ||| (((BitVec.ofInt 8 (l.getD (2) 0)).setWidth 64) <<< 16)) ||| (((BitVec.ofInt 8 (l.getD (3) 0)).setWidth 64) <<< 24)) ||| (((BitVec.ofInt 8 (l.getD (4) 0)).setWidth 64) <<< 32)) (((BitVec.ofInt 8 (l.getD (5) 0)).setWidth 64) <<< 40))) (wanted_none rfl) rfl rfl (by kernel_rfl) (fun _ _ _ h => h) ?_; clear S a; intro a S
 refine d_pure (i := 34) #[yy,yy,yy,yy,yy,yy,yy,yy,yy,yy,yy,yy,yy,yy,yy,yy,yy,yy,yy,yy,yy,yy,yy,yy,yy,yy,yy,yy,yy,yy,yy,yy,yy,yy,yy,nn,nn,nn,nn,nn,nn,nn,nn,nn,nn,nn,nn] S rfl (p_move rfl) (wanted_none rfl) rfl rfl (by kernel_rfl) (fun _ _ _ h => h) ?_; clear S a; intro a S
 refine d_pure (i := 35) #[yy,yy,yy,yy,yy,yy,yy,yy,yy,yy,yy,yy,yy,yy,yy,yy,yy,yy,yy,yy,yy,yy,yy,yy,yy,yy,yy,yy,yy,yy,yy,yy,yy,yy,yy,yy,nn,nn,nn,nn,nn,nn,nn,nn,nn,nn,nn] S rfl (p_indexAddr rfl rfl (fun w => ia_slice Tryd.underlying32 sz5 (by omega) (by omega))) (wanted_none rfl) rfl rfl (by kernel_rfl) (fun _ _ _ h => h) ?_; clear S a; intro a S
 refine d_read (i := 36) #[yy,yy,yy,yy,yy,yy,yy,yy,yy,yy,yy,yy,yy,yy,yy,yy,yy,yy,yy,yy,yy,yy,yy,yy,yy,yy,yy,yy,yy,yy,yy,yy,yy,yy,yy,yy,yy,nn,nn,nn,nn,nn,nn,nn,nn,nn,nn] S H rfl (r_byte (l := l) (i := 6) (v := ((BitVec.ofInt 8 (l.getD (6) 0)).toNat : Int)) rfl (by omega) ag5 hR rfl (bv8_get hby (show 6 < l.length by omega))) (wanted_none rfl) rfl rfl (by kernel_rfl) (fun _ _ _ h => h) ?_; clear S a; intro a S
 refine d_pure (i := 37) #[yy,yy,yy,yy,yy,yy,yy,yy,yy,yy,yy,yy,yy,yy,yy,yy,yy,yy,yy,yy,yy,yy,yy,yy,yy,yy,yy,yy,yy,yy,yy,yy,yy,yy,yy,yy,yy,yy,nn,nn,nn,nn,nn,nn,nn,nn,nn] S rfl (p_conv rfl (fun w => cv_int (Tryd.underlying5) (Tryd.underlying97) (w8to64 (BitVec.ofInt 8 (l.getD (6) 0))))) (wanted_none rfl) rfl rfl (by kernel_rfl) (fun _ _ _ h => h) ?_; clear S a; intro a S
 refine d_pure (i := 38) #[yy,yy,yy,yy,yy,yy,yy,yy,yy,yy,yy,yy,yy,yy,yy,yy,yy,yy,yy,yy,yy,yy,yy,yy,yy,yy,yy,yy,yy,yy,yy,yy,yy,yy,yy,yy,yy,yy,yy,nn,nn,nn,nn,nn,nn,nn,nn] S rfl (p_shl rfl rfl (by decide) (shl64 ((BitVec.ofInt 8 (l.getD (6) 0)).setWidth 64) (n := 48) rfl (by decide))) (wanted_none rfl) rfl rfl (by kernel_rfl) (fun _ _ _ h => h) ?_; clear S a; intro a S
 refine d_pure (i := 39) #[yy,yy,yy,yy,yy,yy,yy,yy,yy,yy,yy,yy,yy,yy,yy,yy,yy,yy,yy,yy,yy,yy,yy,yy,yy,yy,yy,yy,yy,yy,yy,yy,yy,yy,yy,yy,yy,yy,yy,yy,nn,nn,nn,nn,nn,nn,nn] S rfl (p_or rfl rfl (or64 (((((((BitVec.ofInt 8 (l.getD (0) 0)).setWidth 64) ||| (((BitVec.ofInt 8 (l.getD (1) 0)).setWidth 64) <<< 8)) ||| (((BitVec.ofInt 8 (l.getD (2) 0)).setWidth 64) <<< 16)) ||| (((BitVec.ofInt 8 (l.getD (3) 0)).setWidth 64) <<< 24)) ||| (((BitVec.ofInt 8 (l.getD (4) 0)).setWidth 64) <<< 32)) ||| (((BitVec.ofInt 8 (l.getD (5) 0)).setWidth 64) <<< 40)) (((BitVec.ofInt 8 (l.getD (6) 0)).setWidth 64) <<< 48))) (wanted_none rfl) rfl rfl (by kernel_rfl) (fun _ _ _ h => h) ?_; clear S a; intro a S
 refine d_pure (i := 40) #[yy,yy,yy,yy,yy,yy,yy,yy,yy,yy,yy,yy,yy,yy,yy,yy,yy,yy,yy,yy,yy,yy,yy,yy,yy,yy,yy,yy,yy,yy,yy,yy,yy,yy,yy,yy,yy,yy,yy,yy,yy,nn,nn,nn,nn,nn,nn] S rfl (p_move rfl) (wanted_none rfl) rfl rfl (by kernel_rfl) (fun _ _ _ h => h) ?_; clear S a; intro a S
 refine d_pure (i := 41) #[yy,yy,yy,yy,yy,yy,yy,yy,yy,yy,yy,yy,yy,yy,yy,yy,yy,yy,yy,yy,yy,yy,yy,yy,yy,yy,yy,yy,yy,yy,yy,yy,yy,yy,yy,yy,yy,yy,yy,yy,yy,yy,nn,nn,nn,nn,nn] S rfl (p_indexAddr rfl rfl (fun w => ia_slice Tryd.underlying32 sz5 (by omega) (by omega))) (wanted_none rfl) rfl rfl (by kernel_rfl) (fun _ _ _ h => h) ?_; clear S a; intro a S
 refine d_read (i := 42) #[yy,yy,yy,yy,yy,yy,yy,yy,yy,yy,yy,yy,yy,yy,yy,yy,yy,yy,yy,yy,yy,yy,yy,yy,yy,yy,yy,yy,yy,yy,yy,yy,yy,yy,yy,yy,yy,yy,yy,yy,yy,yy,yy,nn,nn,nn,nn] S H rfl (r_byte (l := l) (i := 7) (v := ((BitVec.ofInt 8 (l.getD (7) 0)).toNat : Int)) rfl (by omega) ag5 hR rfl (bv8_get hby (show 7 < l.length by omega))) (wanted_none rfl) rfl rfl (by kernel_rfl) (fun _ _ _ h => h) ?_; clear S a; intro a S
 refine d_pure (i := 43) #[yy,yy,yy,yy,yy,yy,yy,yy,yy,yy,yy,yy,yy,yy,yy,yy,yy,yy,yy,yy,yy,yy,yy,yy,yy,yy,yy,yy,yy,yy,yy,yy,yy,yy,yy,yy,yy,yy,yy,yy,yy,yy,yy,yy,nn,nn,nn] S rfl (p_conv rfl (fun w => cv_int (Tryd.underlying5) (Tryd.underlying97) (w8to64 (BitVec.ofInt 8 (l.getD (7) 0))))) (wanted_none rfl) rfl rfl (by kernel_rfl) (fun _ _ _ h => h) ?_; clear S a; intro a S
 refine d_pure (i := 44) #[yy,yy,yy,yy,yy,yy,yy,yy,yy,yy,yy,yy,yy,yy,yy,yy,yy,yy,yy,yy,yy,yy,yy,yy,yy,yy,yy,yy,yy,yy,yy,yy,yy,yy,yy,yy,yy,yy,yy,yy,yy,yy,yy,yy,yy,nn,nn] S rfl (p_shl rfl rfl (by decide) (shl64 ((BitVec.ofInt 8 (l.getD (7) 0)).setWidth 64) (n := 56) rfl (by decide))) (wanted_none rfl) rfl rfl (by kernel_rfl) (fun _ _ _ h => h) ?_; clear S a; intro a S
 refine d_pure (i := 45) #[yy,yy,yy,yy,yy,yy,yy,yy,yy,yy,yy,yy,yy,yy,yy,yy,yy,yy,yy,yy,yy,yy,yy,yy,yy,yy,yy,yy,yy,yy,yy,yy,yy,yy,yy,yy,yy,yy,yy,yy,yy,yy,yy,yy,yy,yy,nn] S rfl (p_or rfl rfl (or64 ((((((((BitVec.ofInt 8 (l.getD (0) 0)).setWidth 64) ||| (((BitVec.ofInt 8 (l.getD (1) 0)).setWidth 64) <<< 8)) ||| (((BitVec.ofInt 8 (l.getD (2) 0)).setWidth 64) <<< 16)) ||| (((BitVec.ofInt 8 (l.getD (3) 0)).setWidth 64) <<< 24)) ||| (((BitVec.ofInt 8 (l.getD (4) 0)).setWidth 64) <<< 32)) ||| (((BitVec.ofInt 8 (l.getD (5) 0)).setWidth 64) <<< 40)) ||| (((BitVec.ofInt 8 (l.getD (6) 0)).setWidth 64) <<< 48)) (((BitVec.ofInt 8 (l.getD (7) 0)).setWidth 64) <<< 56))) (wanted_none rfl) rfl rfl (by kernel_rfl) (fun _ _ _ h => h) ?_; clear S a; intro a S
 refine d_pure (i := 46) #[yy,yy,yy,yy,yy,yy,yy,yy,yy,yy,yy,yy,yy,yy,yy,yy,yy,yy,yy,yy,yy,yy,yy,yy,yy,yy,yy,yy,yy,yy,yy,yy,yy,yy,yy,yy,yy,yy,yy,yy,yy,yy,yy,yy,yy,yy,yy] S rfl (p_assign rfl) (wanted_none rfl) rfl rfl (by kernel_rfl) (fun _ _ _ h => h) ?_; clear S a; intro a S
 refine d_done (by kernel_rfl) ?_
 refine e_then ?_
 refine wp_ret ?_
 exact r_ret1 S rfl rfl ⟨_, rfl, fun k hk => (word_bits _ _ _ _ _ _ _ _ k hk).trans (word_tops hby h8 k hk), H.below⟩
set_option maxHeartbeats 4000000 in
theorem valid_ (w0 : World) (A : Option Addr) (c : Nat) (s : ByteArray) (hsb : SB w0 A c (ints s)) (hs : s.size ≤ 1000000000) (hT : Lib.Utf8Tabs 0 1 w0) : Calls Tryd.prog 39 #[.slice A (ints s).length c] w0 fun e w' => e = .returned (.bool (up.V s 0)) ∧ Below w0.heap.size w0 w' := by
 have H := HH.start w0
 have hil := ints_len s
 refine c_enter (args := [.slice A (ints s).length c]) (k := 187) Tryd.func39 rfl rfl rfl (fun a S => ?_)
 refine wp_seq ?_
 refine c_region ?_
 refine l_pure S (p_assign rfl) rfl rfl rfl ?_; clear S a; intro a S
 refine l_nil ?_
 refine e_then ?_
 refine wp_seq ?_
 refine c_region ?_
 refine l_pure S (p_move rfl) rfl rfl rfl ?_; clear S a; intro a S
 refine l_pure S (p_move rfl) rfl rfl rfl ?_; clear S a; intro a S
 refine l_pure S (p_len Tryd.underlying32 rfl) rfl rfl rfl ?_; clear S a; intro a S
 refine l_pure S (p_move rfl) rfl rfl rfl ?_; clear S a; intro a S
 refine l_pure S (p_len Tryd.underlying32 rfl) rfl rfl rfl ?_; clear S a; intro a S
 refine l_pure S (p_slice rfl (fun _ _ => o_none) (o_some rfl) (o_some rfl) (fun w => sl_max Tryd.underlying32 sz5 hsb.1)) rfl rfl rfl ?_; clear S a; intro a S
 refine l_pure S (p_assign rfl) rfl rfl rfl ?_; clear S a; intro a S
 refine l_nil ?_
 refine e_then ?_
 refine wp_seq ?_
 refine wp_block ?_
 have hsb0 := hsb.max
 refine c_loop (σ := Nat × Option Addr × Nat) (fun s_ a w => match s_ with | ⟨i, A, c⟩ => SL a 188 [] [(0, .slice A ((ints s).drop i).length c)] ∧ HH (w0.heap.size) w0 w [] ∧ (i ≤ s.size ∧ up.V s 0 = up.V s i ∧ SB w0 A c ((ints s).drop i))) (fun s_ => match s_ with | ⟨i, A, c⟩ => s.size - i) ⟨0, A, (ints s).length⟩ ⟨S.only ⟨rfl, trivial⟩, H, ⟨Nat.zero_le _, rfl, hsb0⟩⟩ ?_
 clear S a H; rintro ⟨i, A, c⟩ a w ⟨S, H, hinv⟩
 obtain ⟨hi, hV, hq⟩ := hinv
 have hln : ((ints s).drop i).length = s.size - i := by rw [List.length_drop, ints_len]
 have hr0 := HHW.bt_range s (i : Int)
 have hr1 := HHW.bt_range s ((i + 1 : Nat) : Int)
 have hr2 := HHW.bt_range s ((i + 2 : Nat) : Int)
 have hr3 := HHW.bt_range s ((i + 3 : Nat) : Int)
 refine wp_seq ?_
 refine wp_seq ?_
 refine c_region ?_
 refine l_pure S (p_move rfl) rfl rfl rfl ?_; clear S a; intro a S
 refine l_pure S (p_len Tryd.underlying32 rfl) rfl rfl rfl ?_; clear S a; intro a S
 refine l_pure S (p_gtr rfl rfl) rfl rfl rfl ?_; clear S a; intro a S
 refine l_nil ?_
 refine e_then ?_
 refine c_cond S rfl (fun bc3 => ?_) (fun bc3 => ?_)
 ·
  have c3 := bc3
  have c3 := of_decide_eq_true c3
  obtain ⟨go4, o4, rfl, hRo4⟩ := hq.get (i := 0) (by omega)
  refine wp_skip ?_
  refine e_then ?_
  refine wp_block ?_
  refine wp_seq ?_
  refine c_region ?_
  refine l_pure S (p_move rfl) rfl rfl rfl ?_; clear S a; intro a S
  refine l_pure S (p_indexAddr rfl rfl (fun w => ia_slice Tryd.underlying32 sz5 (by omega) (by omega))) rfl rfl rfl ?_; clear S a; intro a S
  refine l_read S H (r_byte (l := ((ints s).drop i)) (i := 0) (v := HHW.bt s (i : Int)) rfl (by omega) ag5 hRo4 rfl (int_at s (k := 0) rfl (by omega))) rfl rfl rfl ?_; clear S a; intro a S
  refine l_pure S (p_assign rfl) rfl rfl rfl ?_; clear S a; intro a S
  refine l_nil ?_
  refine e_then ?_
  refine wp_seq ?_
  refine wp_seq ?_
  refine c_region ?_
  refine l_pure S (p_move rfl) rfl rfl rfl ?_; clear S a; intro a S
  refine l_pure S (p_lss rfl rfl) rfl rfl rfl ?_; clear S a; intro a S
  refine l_nil ?_
  refine e_then ?_
  refine c_cond S rfl (fun bc6 => ?_) (fun bc6 => ?_)
  ·
   have c6 := bc6
   have c6 := of_decide_eq_true c6
   have hV1 : up.V s 0 = up.V s (i + 1) := hV.trans (up.V_ascii (by omega) (by omega))
   refine wp_seq ?_
   refine c_region ?_
   refine l_pure S (p_move rfl) rfl rfl rfl ?_; clear S a; intro a S
   have hsb7 := hq.drop (m := 1) (by omega)
   refine l_pure S (p_slice rfl (o_some rfl) (fun _ _ => o_none) (fun _ _ => o_none) (fun w => sl_sb_lo (m := 1) Tryd.underlying32 sz5 rfl (by omega))) rfl rfl rfl ?_; clear S a; intro a S
   rw [List.drop_drop] at S hsb7
   revert S; revert hsb7
   generalize cutAt _ _ 1 1 = Ab7
   generalize _ - 1 = cb7
   intro hsb7 S
   have hln8 : ((ints s).drop (i + 1)).length = s.size - (i + 1) := by rw [List.length_drop, ints_len]
   refine l_pure S (p_assign rfl) rfl rfl rfl ?_; clear S a; intro a S
   refine l_nil ?_
   refine e_then ?_
   refine wp_seq ?_
   refine wp_seq ?_
   refine c_region ?_
   refine l_pure S (p_move rfl) rfl rfl rfl ?_; clear S a; intro a S
   refine l_pure S (p_len Tryd.underlying32 rfl) rfl rfl rfl ?_; clear S a; intro a S
   refine l_pure S (p_gtr rfl rfl) rfl rfl rfl ?_; clear S a; intro a S
   refine l_pure S (p_move rfl) rfl rfl rfl ?_; clear S a; intro a S
   refine l_split (S.of 26 rfl) (fun bc10 => ?_) (fun bc10 => ?_)
   ·
    have c10 := bc10
    have c10 := of_decide_eq_true c10
    obtain ⟨go11, o11, rfl, hRo11⟩ := hsb7.get (i := 0) (by omega)
    refine l_on S rfl rfl rfl rfl bc10 ?_
    refine l_pure S (p_move rfl) rfl rfl rfl ?_; clear S a; intro a S
    refine l_on S rfl rfl rfl rfl bc10 ?_
    have hcon := word_ _ _ _ cb7 ((ints s).drop (i + 1)) (hRo11.old H) (by omega) (ints_by s _)
    refine l_call S rfl rfl Tryd.func59 rfl rfl (hcon) rfl rfl rfl ?_
    rintro e w ⟨x1, rfl, hx1, hb⟩
    refine ⟨_, rfl, ?_⟩; clear S a; intro a S
    replace H := H.later hb; clear hcon hb
    refine l_on S rfl rfl rfl rfl bc10 ?_
    refine l_pure S (p_and rfl rfl (and64 x1 9259542123273814144#64)) rfl rfl rfl ?_; clear S a; intro a S
    refine l_on S rfl rfl rfl rfl bc10 ?_
    refine l_pure S (p_eql rfl rfl) rfl rfl rfl ?_; clear S a; intro a S
    refine l_pure S (p_pick_t rfl bc10 rfl) rfl rfl rfl ?_; clear S a; intro a S
    refine l_nil ?_
    refine e_then ?_
    refine c_cond S rfl (fun bc14 => ?_) (fun bc14 => ?_)
    ·
     have c14 := bc14
     have c14 := eq_of_beq c14
     have hV9 : up.V s 0 = up.V s (i + 1 + 8) := hV1.trans (V_word hx1 c14 (by omega))
     refine wp_seq ?_
     refine c_region ?_
     refine l_pure S (p_move rfl) rfl rfl rfl ?_; clear S a; intro a S
     have hsb15 := hsb7.drop (m := 8) (by omega)
     refine l_pure S (p_slice rfl (o_some rfl) (fun _ _ => o_none) (fun _ _ => o_none) (fun w => sl_sb_lo (m := 8) Tryd.underlying32 sz5 rfl (by omega))) rfl rfl rfl ?_; clear S a; intro a S
     rw [List.drop_drop] at S hsb15
     revert S; revert hsb15
     generalize cutAt _ _ 8 1 = Ab15
     generalize _ - 8 = cb15
     intro hsb15 S
     have hln16 : ((ints s).drop ((i + 1) + 8)).length = s.size - ((i + 1) + 8) := by rw [List.length_drop, ints_len]
     refine l_pure S (p_assign rfl) rfl rfl rfl ?_; clear S a; intro a S
     refine l_nil ?_
     refine e_then ?_
     refine wp_seq ?_
     refine d_start (id := 8) [] 13 #[nn,nn,nn,nn,nn,nn,nn,nn,nn,nn,nn,nn,nn] H rfl rfl rfl (fun w H => ?_)
     refine d_pure (i := 0) #[yy,nn,nn,nn,nn,nn,nn,nn,nn,nn,nn,nn,nn] S rfl (p_move rfl) (wanted_none rfl) rfl rfl (by kernel_rfl) (fun _ _ _ h => h) ?_; clear S a; intro a S
     refine d_pure (i := 1) #[yy,yy,nn,nn,nn,nn,nn,nn,nn,nn,nn,nn,nn] S rfl (p_len Tryd.underlying32 rfl) (wanted_none rfl) rfl rfl (by kernel_rfl) (fun _ _ _ h => h) ?_; clear S a; intro a S
     refine d_pure (i := 2) #[yy,yy,yy,nn,nn,nn,nn,nn,nn,nn,nn,nn,nn] S rfl (p_gtr rfl rfl) (wanted_none rfl) rfl rfl (by kernel_rfl) (fun _ _ _ h => h) ?_; clear S a; intro a S
     refine d_pure (i := 3) #[yy,yy,yy,yy,nn,nn,nn,nn,nn,nn,nn,nn,nn] S rfl (p_move rfl) (wanted_none rfl) rfl rfl (by kernel_rfl) (fun _ _ _ h => h) ?_; clear S a; intro a S
     refine d_split (S.of 37 rfl) (fun bc18 => ?_) (fun bc18 => ?_)
     ·
      have c18 := bc18
      have c18 := of_decide_eq_true c18
      obtain ⟨go19, o19, rfl, hRo19⟩ := hsb15.get (i := 0) (by omega)
      refine d_pure (i := 4) #[yy,yy,yy,yy,yy,nn,nn,nn,nn,nn,nn,nn,nn] S rfl (p_move rfl) (wanted_on S rfl rfl rfl rfl bc18) rfl rfl (by kernel_rfl) (fun _ _ _ h => h) ?_; clear S a; intro a S
      refine d_pure (i := 6) #[yy,yy,yy,yy,yy,nn,yy,nn,nn,nn,nn,nn,nn] S rfl (p_move rfl) (wanted_on S rfl rfl rfl rfl bc18) rfl rfl (by kernel_rfl) (fun _ _ _ h => h) ?_; clear S a; intro a S
      have hsb20 := hsb15.drop (m := 8) (by omega)
      refine d_pure (i := 7) #[yy,yy,yy,yy,yy,nn,yy,yy,nn,nn,nn,nn,nn] S rfl (p_slice rfl (o_some rfl) (fun _ _ => o_none) (fun _ _ => o_none) (fun w => sl_sb_lo (m := 8) Tryd.underlying32 sz5 rfl (by omega))) (wanted_on S rfl rfl rfl rfl bc18) rfl rfl (by kernel_rfl) (fun _ _ _ h => h) ?_; clear S a; intro a S
      rw [List.drop_drop] at S hsb20
      revert S; revert hsb20
      generalize cutAt _ _ 8 1 = Ab20
      generalize _ - 8 = cb20
      intro hsb20 S
      have hln21 : ((ints s).drop (((i + 1) + 8) + 8)).length = s.size - (((i + 1) + 8) + 8) := by rw [List.length_drop, ints_len]
      have hcon := word_ _ _ _ cb15 ((ints s).drop ((i + 1) + 8)) (hRo19.old H) (by omega) (ints_by s _)
      refine d_call (i := 5) #[yy,yy,yy,yy,yy,yy,yy,yy,nn,nn,nn,nn,nn] S rfl rfl rfl Tryd.func59 rfl rfl (hcon) (wanted_on S rfl rfl rfl rfl bc18) rfl rfl (by kernel_rfl) rfl ?_
      rintro e w ⟨x22, rfl, hx22, hb⟩
      refine ⟨_, rfl, H.later hb, ?_⟩; replace H := H.later hb; clear hb hcon; clear S a; intro a S
      obtain ⟨go24, o24, rfl, hRo24⟩ := hsb20.get (i := 0) (by omega)
      have hcon := word_ _ _ _ cb20 ((ints s).drop (((i + 1) + 8) + 8)) (hRo24.old H) (by omega) (ints_by s _)
      refine d_call (i := 8) #[yy,yy,yy,yy,yy,yy,yy,yy,yy,nn,nn,nn,nn] S rfl rfl rfl Tryd.func59 rfl rfl (hcon) (wanted_on S rfl rfl rfl rfl bc18) rfl rfl (by kernel_rfl) rfl ?_
      rintro e w ⟨x23, rfl, hx23, hb⟩
      refine ⟨_, rfl, H.later hb, ?_⟩; replace H := H.later hb; clear hb hcon; clear S a; intro a S
      refine d_pure (i := 9) #[yy,yy,yy,yy,yy,yy,yy,yy,yy,yy,nn,nn,nn] S rfl (p_or rfl rfl (or64 x22 x23)) (wanted_on S rfl rfl rfl rfl bc18) rfl rfl (by kernel_rfl) (fun _ _ _ h => h) ?_; clear S a; intro a S
      refine d_pure (i := 10) #[yy,yy,yy,yy,yy,yy,yy,yy,yy,yy,yy,nn,nn] S rfl (p_and rfl rfl (and64 (x22 ||| x23) 9259542123273814144#64)) (wanted_on S rfl rfl rfl rfl bc18) rfl rfl (by kernel_rfl) (fun _ _ _ h => h) ?_; clear S a; intro a S
      refine d_pure (i := 11) #[yy,yy,yy,yy,yy,yy,yy,yy,yy,yy,yy,yy,nn] S rfl (p_eql rfl rfl) (wanted_on S rfl rfl rfl rfl bc18) rfl rfl (by kernel_rfl) (fun _ _ _ h => h) ?_; clear S a; intro a S
      refine d_pure (i := 12) #[yy,yy,yy,yy,yy,yy,yy,yy,yy,yy,yy,yy,yy] S rfl (p_pick_t rfl bc18 rfl) (wanted_none rfl) rfl rfl (by kernel_rfl) (fun _ _ _ h => h) ?_; clear S a; intro a S
      refine d_done (by kernel_rfl) ?_
      refine e_then ?_
      refine c_cond S rfl (fun bc26 => ?_) (fun bc26 => ?_)
      ·
       have c26 := bc26
       have c26 := eq_of_beq c26
       obtain ⟨hm1, hm2⟩ := mask_or c26
       have hV25 : up.V s 0 = up.V s (i + 1 + 8 + 16) := (hV9.trans (V_word hx22 hm1 (by omega))).trans (V_word hx23 hm2 (by omega))
       refine wp_seq ?_
       refine c_region ?_
       refine l_pure S (p_move rfl) rfl rfl rfl ?_; clear S a; intro a S
       have hsb27 := hsb15.drop (m := 16) (by omega)
       refine l_pure S (p_slice rfl (o_some rfl) (fun _ _ => o_none) (fun _ _ => o_none) (fun w => sl_sb_lo (m := 16) Tryd.underlying32 sz5 rfl (by omega))) rfl rfl rfl ?_; clear S a; intro a S
       rw [List.drop_drop] at S hsb27
       revert S; revert hsb27
       generalize cutAt _ _ 16 1 = Ab27
       generalize _ - 16 = cb27
       intro hsb27 S
       have hln28 : ((ints s).drop (((i + 1) + 8) + 16)).length = s.size - (((i + 1) + 8) + 16) := by rw [List.length_drop, ints_len]
       refine l_pure S (p_assign rfl) rfl rfl rfl ?_; clear S a; intro a S
       refine l_nil ?_
       refine e_then ?_
       refine wp_block ?_
       refine c_loop (σ := Nat × Option Addr × Nat) (fun s_ a w => match s_ with | ⟨j, A, c⟩ => SL a 188 [] [(0, .slice A ((ints s).drop j).length c)] ∧ HH (w0.heap.size) w0 w [] ∧ (i + 25 ≤ j ∧ j ≤ s.size ∧ up.V s 0 = up.V s j ∧ SB w0 A c ((ints s).drop j))) (fun s_ => match s_ with | ⟨j, A, c⟩ => s.size - j) ⟨(((i + 1) + 8) + 16), _, _⟩ ⟨S.only ⟨rfl, trivial⟩, H, ⟨by omega, by omega, hV25, hsb27⟩⟩ ?_
       clear S a H; rintro ⟨j, A, c⟩ a w ⟨S, H, hinv⟩
       obtain ⟨hij, hj, hVj, ht⟩ := hinv
       have hlj : ((ints s).drop j).length = s.size - j := by rw [List.length_drop, ints_len]
       refine wp_seq ?_
       refine wp_seq ?_
       refine d_start (id := 10) [] 21 #[nn,nn,nn,nn,nn,nn,nn,nn,nn,nn,nn,nn,nn,nn,nn,nn,nn,nn,nn,nn,nn] H rfl rfl rfl (fun w H => ?_)
       refine d_pure (i := 0) #[yy,nn,nn,nn,nn,nn,nn,nn,nn,nn,nn,nn,nn,nn,nn,nn,nn,nn,nn,nn,nn] S rfl (p_move rfl) (wanted_none rfl) rfl rfl (by kernel_rfl) (fun _ _ _ h => h) ?_; clear S a; intro a S
       refine d_pure (i := 1) #[yy,yy,nn,nn,nn,nn,nn,nn,nn,nn,nn,nn,nn,nn,nn,nn,nn,nn,nn,nn,nn] S rfl (p_len Tryd.underlying32 rfl) (wanted_none rfl) rfl rfl (by kernel_rfl) (fun _ _ _ h => h) ?_; clear S a; intro a S
       refine d_pure (i := 2) #[yy,yy,yy,nn,nn,nn,nn,nn,nn,nn,nn,nn,nn,nn,nn,nn,nn,nn,nn,nn,nn] S rfl (p_gtr rfl rfl) (wanted_none rfl) rfl rfl (by kernel_rfl) (fun _ _ _ h => h) ?_; clear S a; intro a S
       refine d_pure (i := 3) #[yy,yy,yy,yy,nn,nn,nn,nn,nn,nn,nn,nn,nn,nn,nn,nn,nn,nn,nn,nn,nn] S rfl (p_move rfl) (wanted_none rfl) rfl rfl (by kernel_rfl) (fun _ _ _ h => h) ?_; clear S a; intro a S
       refine d_split (S.of 52 rfl) (fun bc30 => ?_) (fun bc30 => ?_)
       ·
        have c30 := bc30
        have c30 := of_decide_eq_true c30
        obtain ⟨go31, o31, rfl, hRo31⟩ := ht.get (i := 0) (by omega)
        refine d_pure (i := 4) #[yy,yy,yy,yy,yy,nn,nn,nn,nn,nn,nn,nn,nn,nn,nn,nn,nn,nn,nn,nn,nn] S rfl (p_move rfl) (wanted_on S rfl rfl rfl rfl bc30) rfl rfl (by kernel_rfl) (fun _ _ _ h => h) ?_; clear S a; intro a S
        refine d_pure (i := 6) #[yy,yy,yy,yy,yy,nn,yy,nn,nn,nn,nn,nn,nn,nn,nn,nn,nn,nn,nn,nn,nn] S rfl (p_move rfl) (wanted_on S rfl rfl rfl rfl bc30) rfl rfl (by kernel_rfl) (fun _ _ _ h => h) ?_; clear S a; intro a S
        have hsb32 := ht.drop (m := 8) (by omega)
        refine d_pure (i := 7) #[yy,yy,yy,yy,yy,nn,yy,yy,nn,nn,nn,nn,nn,nn,nn,nn,nn,nn,nn,nn,nn] S rfl (p_slice rfl (o_some rfl) (fun _ _ => o_none) (fun _ _ => o_none) (fun w => sl_sb_lo (m := 8) Tryd.underlying32 sz5 rfl (by omega))) (wanted_on S rfl rfl rfl rfl bc30) rfl rfl (by kernel_rfl) (fun _ _ _ h => h) ?_; clear S a; intro a S
        rw [List.drop_drop] at S hsb32
        revert S; revert hsb32
        generalize cutAt _ _ 8 1 = Ab32
        generalize _ - 8 = cb32
        intro hsb32 S
        have hln33 : ((ints s).drop (j + 8)).length = s.size - (j + 8) := by rw [List.length_drop, ints_len]
        refine d_pure (i := 10) #[yy,yy,yy,yy,yy,nn,yy,yy,nn,nn,yy,nn,nn,nn,nn,nn,nn,nn,nn,nn,nn] S rfl (p_move rfl) (wanted_on S rfl rfl rfl rfl bc30) rfl rfl (by kernel_rfl) (fun _ _ _ h => h) ?_; clear S a; intro a S
        have hsb34 := ht.drop (m := 16) (by omega)
        refine d_pure (i := 11) #[yy,yy,yy,yy,yy,nn,yy,yy,nn,nn,yy,yy,nn,nn,nn,nn,nn,nn,nn,nn,nn] S rfl (p_slice rfl (o_some rfl) (fun _ _ => o_none) (fun _ _ => o_none) (fun w => sl_sb_lo (m := 16) Tryd.underlying32 sz5 rfl (by omega))) (wanted_on S rfl rfl rfl rfl bc30) rfl rfl (by kernel_rfl) (fun _ _ _ h => h) ?_; clear S a; intro a S
        rw [List.drop_drop] at S hsb34
        revert S; revert hsb34
        generalize cutAt _ _ 16 1 = Ab34
        generalize _ - 16 = cb34
        intro hsb34 S
        have hln35 : ((ints s).drop (j + 16)).length = s.size - (j + 16) := by rw [List.length_drop, ints_len]
        refine d_pure (i := 13) #[yy,yy,yy,yy,yy,nn,yy,yy,nn,nn,yy,yy,nn,yy,nn,nn,nn,nn,nn,nn,nn] S rfl (p_move rfl) (wanted_on S rfl rfl rfl rfl bc30) rfl rfl (by kernel_rfl) (fun _ _ _ h => h) ?_; clear S a; intro a S
        have hsb36 := ht.drop (m := 24) (by omega)
        refine d_pure (i := 14) #[yy,yy,yy,yy,yy,nn,yy,yy,nn,nn,yy,yy,nn,yy,yy,nn,nn,nn,nn,nn,nn] S rfl (p_slice rfl (o_some rfl) (fun _ _ => o_none) (fun _ _ => o_none) (fun w => sl_sb_lo (m := 24) Tryd.underlying32 sz5 rfl (by omega))) (wanted_on S rfl rfl rfl rfl bc30) rfl rfl (by kernel_rfl) (fun _ _ _ h => h) ?_; clear S a; intro a S
        rw [List.drop_drop] at S hsb36
        revert S; revert hsb36
        generalize cutAt _ _ 24 1 = Ab36
        generalize _ - 24 = cb36
        intro hsb36 S
        have hln37 : ((ints s).drop (j + 24)).length = s.size - (j + 24) := by rw [List.length_drop, ints_len]
        have hcon := word_ _ _ _ c ((ints s).drop j) (hRo31.old H) (by omega) (ints_by s _)
        refine d_call (i := 5) #[yy,yy,yy,yy,yy,yy,yy,yy,nn,nn,yy,yy,nn,yy,yy,nn,nn,nn,nn,nn,nn] S rfl rfl rfl Tryd.func59 rfl rfl (hcon) (wanted_on S rfl rfl rfl rfl bc30) rfl rfl (by kernel_rfl) rfl ?_
        rintro e w ⟨x38, rfl, hx38, hb⟩
        refine ⟨_, rfl, H.later hb, ?_⟩; replace H := H.later hb; clear hb hcon; clear S a; intro a S
        obtain ⟨go40, o40, rfl, hRo40⟩ := hsb32.get (i := 0) (by omega)
        have hcon := word_ _ _ _ cb32 ((ints s).drop (j + 8)) (hRo40.old H) (by omega) (ints_by s _)
        refine d_call (i := 8) #[yy,yy,yy,yy,yy,yy,yy,yy,yy,nn,yy,yy,nn,yy,yy,nn,nn,nn,nn,nn,nn] S rfl rfl rfl Tryd.func59 rfl rfl (hcon) (wanted_on S rfl rfl rfl rfl bc30) rfl rfl (by kernel_rfl) rfl ?_
        rintro e w ⟨x39, rfl, hx39, hb⟩
        refine ⟨_, rfl, H.later hb, ?_⟩; replace H := H.later hb; clear hb hcon; clear S a; intro a S
        refine d_pure (i := 9) #[yy,yy,yy,yy,yy,yy,yy,yy,yy,yy,yy,yy,nn,yy,yy,nn,nn,nn,nn,nn,nn] S rfl (p_or rfl rfl (or64 x38 x39)) (wanted_on S rfl rfl rfl rfl bc30) rfl rfl (by kernel_rfl) (fun _ _ _ h => h) ?_; clear S a; intro a S
        obtain ⟨go42, o42, rfl, hRo42⟩ := hsb34.get (i := 0) (by omega)
        have hcon := word_ _ _ _ cb34 ((ints s).drop (j + 16)) (hRo42.old H) (by omega) (ints_by s _)
        refine d_call (i := 12) #[yy,yy,yy,yy,yy,yy,yy,yy,yy,yy,yy,yy,yy,yy,yy,nn,nn,nn,nn,nn,nn] S rfl rfl rfl Tryd.func59 rfl rfl (hcon) (wanted_on S rfl rfl rfl rfl bc30) rfl rfl (by kernel_rfl) rfl ?_
        rintro e w ⟨x41, rfl, hx41, hb⟩
        refine ⟨_, rfl, H.later hb, ?_⟩; replace H := H.later hb; clear hb hcon; clear S a; intro a S
        obtain ⟨go44, o44, rfl, hRo44⟩ := hsb36.get (i := 0) (by omega)
        have hcon := word_ _ _ _ cb36 ((ints s).drop (j + 24)) (hRo44.old H) (by omega) (ints_by s _)
        refine d_call (i := 15) #[yy,yy,yy,yy,yy,yy,yy,yy,yy,yy,yy,yy,yy,yy,yy,yy,nn,nn,nn,nn,nn] S rfl rfl rfl Tryd.func59 rfl rfl (hcon) (wanted_on S rfl rfl rfl rfl bc30) rfl rfl (by kernel_rfl) rfl ?_
        rintro e w ⟨x43, rfl, hx43, hb⟩
        refine ⟨_, rfl, H.later hb, ?_⟩; replace H := H.later hb; clear hb hcon; clear S a; intro a S
        refine d_pure (i := 16) #[yy,yy,yy,yy,yy,yy,yy,yy,yy,yy,yy,yy,yy,yy,yy,yy,yy,nn,nn,nn,nn] S rfl (p_or rfl rfl (or64 x41 x43)) (wanted_on S rfl rfl rfl rfl bc30) rfl rfl (by kernel_rfl) (fun _ _ _ h => h) ?_; clear S a; intro a S
        refine d_pure (i := 17) #[yy,yy,yy,yy,yy,yy,yy,yy,yy,yy,yy,yy,yy,yy,yy,yy,yy,yy,nn,nn,nn] S rfl (p_or rfl rfl (or64 (x38 ||| x39) (x41 ||| x43))) (wanted_on S rfl rfl rfl rfl bc30) rfl rfl (by kernel_rfl) (fun _ _ _ h => h) ?_; clear S a; intro a S
        refine d_pure (i := 18) #[yy,yy,yy,yy,yy,yy,yy,yy,yy,yy,yy,yy,yy,yy,yy,yy,yy,yy,yy,nn,nn] S rfl (p_and rfl rfl (and64 ((x38 ||| x39) ||| (x41 ||| x43)) 9259542123273814144#64)) (wanted_on S rfl rfl rfl rfl bc30) rfl rfl (by kernel_rfl) (fun _ _ _ h => h) ?_; clear S a; intro a S
        refine d_pure (i := 19) #[yy,yy,yy,yy,yy,yy,yy,yy,yy,yy,yy,yy,yy,yy,yy,yy,yy,yy,yy,yy,nn] S rfl (p_eql rfl rfl) (wanted_on S rfl rfl rfl rfl bc30) rfl rfl (by kernel_rfl) (fun _ _ _ h => h) ?_; clear S a; intro a S
        refine d_pure (i := 20) #[yy,yy,yy,yy,yy,yy,yy,yy,yy,yy,yy,yy,yy,yy,yy,yy,yy,yy,yy,yy,yy] S rfl (p_pick_t rfl bc30 rfl) (wanted_none rfl) rfl rfl (by kernel_rfl) (fun _ _ _ h => h) ?_; clear S a; intro a S
        refine d_done (by kernel_rfl) ?_
        refine e_then ?_
        refine c_cond S rfl (fun bc46 => ?_) (fun bc46 => ?_)
        ·
         have c46 := bc46
         have c46 := eq_of_beq c46
         obtain ⟨hm12, hm34⟩ := mask_or c46
         obtain ⟨hm1, hm2⟩ := mask_or hm12
         obtain ⟨hm3, hm4⟩ := mask_or hm34
         have hVj2 : up.V s 0 = up.V s (j + 32) := (((hVj.trans (V_word hx38 hm1 (by omega))).trans (V_word hx39 hm2 (by omega))).trans (V_word hx41 hm3 (by omega))).trans (V_word hx43 hm4 (by omega))
         refine wp_skip ?_
         refine e_then ?_
         refine wp_block ?_
         refine c_region ?_
         refine l_pure S (p_move rfl) rfl rfl rfl ?_; clear S a; intro a S
         have hsb47 := ht.drop (m := 32) (by omega)
         refine l_pure S (p_slice rfl (o_some rfl) (fun _ _ => o_none) (fun _ _ => o_none) (fun w => sl_sb_lo (m := 32) Tryd.underlying32 sz5 rfl (by omega))) rfl rfl rfl ?_; clear S a; intro a S
         rw [List.drop_drop] at S hsb47
         revert S; revert hsb47
         generalize cutAt _ _ 32 1 = Ab47
         generalize _ - 32 = cb47
         intro hsb47 S
         have hln48 : ((ints s).drop (j + 32)).length = s.size - (j + 32) := by rw [List.length_drop, ints_len]
         refine l_pure S (p_assign rfl) rfl rfl rfl ?_; clear S a; intro a S
         refine l_nil ?_
         refine e_in 3 ?_
         refine e_then ?_
         exact ⟨⟨(j + 32), _, _⟩, ⟨S.only ⟨rfl, trivial⟩, H, ⟨by omega, by omega, hVj2, hsb47⟩⟩, (show s.size - (j + 32) < s.size - j from by omega)⟩
        ·
         have c46 := bc46
         have c46 := ne_of_beq_false c46
         refine wp_exit ?_
         refine e_then_exit ?_
         refine e_then_exit ?_
         refine e_in_exit ?_
         refine e_then ?_
         refine wp_exit ?_
         refine e_then_exit ?_
         refine e_in_exit ?_
         refine e_then ?_
         exact ⟨⟨j, _, _⟩, ⟨S.only ⟨rfl, trivial⟩, H, ⟨by omega, hVj, ht⟩⟩, (show s.size - j < s.size - i from by omega)⟩
       ·
        have c30 := bc30
        have c30 := of_decide_eq_false c30
        refine d_off (i := 4) #[yy,yy,yy,yy,yy,nn,nn,nn,nn,nn,nn,nn,nn,nn,nn,nn,nn,nn,nn,nn,nn] S rfl (wanted_off S rfl rfl rfl rfl bc30) rfl rfl (by kernel_rfl) (fun _ _ _ h => h) ?_; clear S a; intro a S
        refine d_off (i := 6) #[yy,yy,yy,yy,yy,nn,yy,nn,nn,nn,nn,nn,nn,nn,nn,nn,nn,nn,nn,nn,nn] S rfl (wanted_off S rfl rfl rfl rfl bc30) rfl rfl (by kernel_rfl) (fun _ _ _ h => h) ?_; clear S a; intro a S
        refine d_off (i := 7) #[yy,yy,yy,yy,yy,nn,yy,yy,nn,nn,nn,nn,nn,nn,nn,nn,nn,nn,nn,nn,nn] S rfl (wanted_off S rfl rfl rfl rfl bc30) rfl rfl (by kernel_rfl) (fun _ _ _ h => h) ?_; clear S a; intro a S
        refine d_off (i := 10) #[yy,yy,yy,yy,yy,nn,yy,yy,nn,nn,yy,nn,nn,nn,nn,nn,nn,nn,nn,nn,nn] S rfl (wanted_off S rfl rfl rfl rfl bc30) rfl rfl (by kernel_rfl) (fun _ _ _ h => h) ?_; clear S a; intro a S
        refine d_off (i := 11) #[yy,yy,yy,yy,yy,nn,yy,yy,nn,nn,yy,yy,nn,nn,nn,nn,nn,nn,nn,nn,nn] S rfl (wanted_off S rfl rfl rfl rfl bc30) rfl rfl (by kernel_rfl) (fun _ _ _ h => h) ?_; clear S a; intro a S
        refine d_off (i := 13) #[yy,yy,yy,yy,yy,nn,yy,yy,nn,nn,yy,yy,nn,yy,nn,nn,nn,nn,nn,nn,nn] S rfl (wanted_off S rfl rfl rfl rfl bc30) rfl rfl (by kernel_rfl) (fun _ _ _ h => h) ?_; clear S a; intro a S
        refine d_off (i := 14) #[yy,yy,yy,yy,yy,nn,yy,yy,nn,nn,yy,yy,nn,yy,yy,nn,nn,nn,nn,nn,nn] S rfl (wanted_off S rfl rfl rfl rfl bc30) rfl rfl (by kernel_rfl) (fun _ _ _ h => h) ?_; clear S a; intro a S
        refine d_off (i := 5) #[yy,yy,yy,yy,yy,yy,yy,yy,nn,nn,yy,yy,nn,yy,yy,nn,nn,nn,nn,nn,nn] S rfl (wanted_off S rfl rfl rfl rfl bc30) rfl rfl (by kernel_rfl) (fun _ _ _ h => h) ?_; clear S a; intro a S
        refine d_off (i := 8) #[yy,yy,yy,yy,yy,yy,yy,yy,yy,nn,yy,yy,nn,yy,yy,nn,nn,nn,nn,nn,nn] S rfl (wanted_off S rfl rfl rfl rfl bc30) rfl rfl (by kernel_rfl) (fun _ _ _ h => h) ?_; clear S a; intro a S
        refine d_off (i := 9) #[yy,yy,yy,yy,yy,yy,yy,yy,yy,yy,yy,yy,nn,yy,yy,nn,nn,nn,nn,nn,nn] S rfl (wanted_off S rfl rfl rfl rfl bc30) rfl rfl (by kernel_rfl) (fun _ _ _ h => h) ?_; clear S a; intro a S
        refine d_off (i := 12) #[yy,yy,yy,yy,yy,yy,yy,yy,yy,yy,yy,yy,yy,yy,yy,nn,nn,nn,nn,nn,nn] S rfl (wanted_off S rfl rfl rfl rfl bc30) rfl rfl (by kernel_rfl) (fun _ _ _ h => h) ?_; clear S a; intro a S
        refine d_off (i := 15) #[yy,yy,yy,yy,yy,yy,yy,yy,yy,yy,yy,yy,yy,yy,yy,yy,nn,nn,nn,nn,nn] S rfl (wanted_off S rfl rfl rfl rfl bc30) rfl rfl (by kernel_rfl) (fun _ _ _ h => h) ?_; clear S a; intro a S
        refine d_off (i := 16) #[yy,yy,yy,yy,yy,yy,yy,yy,yy,yy,yy,yy,yy,yy,yy,yy,yy,nn,nn,nn,nn] S rfl (wanted_off S rfl rfl rfl rfl bc30) rfl rfl (by kernel_rfl) (fun _ _ _ h => h) ?_; clear S a; intro a S
        refine d_off (i := 17) #[yy,yy,yy,yy,yy,yy,yy,yy,yy,yy,yy,yy,yy,yy,yy,yy,yy,yy,nn,nn,nn] S rfl (wanted_off S rfl rfl rfl rfl bc30) rfl rfl (by kernel_rfl) (fun _ _ _ h => h) ?_; clear S a; intro a S
        refine d_off (i := 18) #[yy,yy,yy,yy,yy,yy,yy,yy,yy,yy,yy,yy,yy,yy,yy,yy,yy,yy,yy,nn,nn] S rfl (wanted_off S rfl rfl rfl rfl bc30) rfl rfl (by kernel_rfl) (fun _ _ _ h => h) ?_; clear S a; intro a S
        refine d_off (i := 19) #[yy,yy,yy,yy,yy,yy,yy,yy,yy,yy,yy,yy,yy,yy,yy,yy,yy,yy,yy,yy,nn] S rfl (wanted_off S rfl rfl rfl rfl bc30) rfl rfl (by kernel_rfl) (fun _ _ _ h => h) ?_; clear S a; intro a S
        refine d_pure (i := 20) #[yy,yy,yy,yy,yy,yy,yy,yy,yy,yy,yy,yy,yy,yy,yy,yy,yy,yy,yy,yy,yy] S rfl (p_pick_f rfl bc30 rfl) (wanted_none rfl) rfl rfl (by kernel_rfl) (fun _ _ _ h => h) ?_; clear S a; intro a S
        refine d_done (by kernel_rfl) ?_
        refine e_then ?_
        refine c_cond (b := false) S rfl (fun h => by cases h) (fun _ => ?_)
        refine wp_exit ?_
        refine e_then_exit ?_
        refine e_then_exit ?_
        refine e_in_exit ?_
        refine e_then ?_
        refine wp_exit ?_
        refine e_then_exit ?_
        refine e_in_exit ?_
        refine e_then ?_
        exact ⟨⟨j, _, _⟩, ⟨S.only ⟨rfl, trivial⟩, H, ⟨by omega, hVj, ht⟩⟩, (show s.size - j < s.size - i from by omega)⟩
      ·
       have c26 := bc26
       have c26 := ne_of_beq_false c26
       refine wp_skip ?_
       refine e_then ?_
       refine wp_exit ?_
       refine e_then_exit ?_
       refine e_in_exit ?_
       refine e_then ?_
       exact ⟨⟨((i + 1) + 8), _, _⟩, ⟨S.only ⟨rfl, trivial⟩, H, ⟨by omega, hV9, hsb15⟩⟩, (show s.size - ((i + 1) + 8) < s.size - i from by omega)⟩
     ·
      have c18 := bc18
      have c18 := of_decide_eq_false c18
      refine d_off (i := 4) #[yy,yy,yy,yy,yy,nn,nn,nn,nn,nn,nn,nn,nn] S rfl (wanted_off S rfl rfl rfl rfl bc18) rfl rfl (by kernel_rfl) (fun _ _ _ h => h) ?_; clear S a; intro a S
      refine d_off (i := 6) #[yy,yy,yy,yy,yy,nn,yy,nn,nn,nn,nn,nn,nn] S rfl (wanted_off S rfl rfl rfl rfl bc18) rfl rfl (by kernel_rfl) (fun _ _ _ h => h) ?_; clear S a; intro a S
      refine d_off (i := 7) #[yy,yy,yy,yy,yy,nn,yy,yy,nn,nn,nn,nn,nn] S rfl (wanted_off S rfl rfl rfl rfl bc18) rfl rfl (by kernel_rfl) (fun _ _ _ h => h) ?_; clear S a; intro a S
      refine d_off (i := 5) #[yy,yy,yy,yy,yy,yy,yy,yy,nn,nn,nn,nn,nn] S rfl (wanted_off S rfl rfl rfl rfl bc18) rfl rfl (by kernel_rfl) (fun _ _ _ h => h) ?_; clear S a; intro a S
      refine d_off (i := 8) #[yy,yy,yy,yy,yy,yy,yy,yy,yy,nn,nn,nn,nn] S rfl (wanted_off S rfl rfl rfl rfl bc18) rfl rfl (by kernel_rfl) (fun _ _ _ h => h) ?_; clear S a; intro a S
      refine d_off (i := 9) #[yy,yy,yy,yy,yy,yy,yy,yy,yy,yy,nn,nn,nn] S rfl (wanted_off S rfl rfl rfl rfl bc18) rfl rfl (by kernel_rfl) (fun _ _ _ h => h) ?_; clear S a; intro a S
      refine d_off (i := 10) #[yy,yy,yy,yy,yy,yy,yy,yy,yy,yy,yy,nn,nn] S rfl (wanted_off S rfl rfl rfl rfl bc18) rfl rfl (by kernel_rfl) (fun _ _ _ h => h) ?_; clear S a; intro a S
      refine d_off (i := 11) #[yy,yy,yy,yy,yy,yy,yy,yy,yy,yy,yy,yy,nn] S rfl (wanted_off S rfl rfl rfl rfl bc18) rfl rfl (by kernel_rfl) (fun _ _ _ h => h) ?_; clear S a; intro a S
      refine d_pure (i := 12) #[yy,yy,yy,yy,yy,yy,yy,yy,yy,yy,yy,yy,yy] S rfl (p_pick_f rfl bc18 rfl) (wanted_none rfl) rfl rfl (by kernel_rfl) (fun _ _ _ h => h) ?_; clear S a; intro a S
      refine d_done (by kernel_rfl) ?_
      refine e_then ?_
      refine c_cond (b := false) S rfl (fun h => by cases h) (fun _ => ?_)
      refine wp_skip ?_
      refine e_then ?_
      refine wp_exit ?_
      refine e_then_exit ?_
      refine e_in_exit ?_
      refine e_then ?_
      exact ⟨⟨((i + 1) + 8), _, _⟩, ⟨S.only ⟨rfl, trivial⟩, H, ⟨by omega, hV9, hsb15⟩⟩, (show s.size - ((i + 1) + 8) < s.size - i from by omega)⟩
    ·
     have c14 := bc14
     have c14 := ne_of_beq_false c14
     refine wp_skip ?_
     refine e_then ?_
     refine wp_exit ?_
     refine e_then_exit ?_
     refine e_in_exit ?_
     refine e_then ?_
     exact ⟨⟨(i + 1), _, _⟩, ⟨S.only ⟨rfl, trivial⟩, H, ⟨by omega, hV1, hsb7⟩⟩, (show s.size - (i + 1) < s.size - i from by omega)⟩
   ·
    have c10 := bc10
    have c10 := of_decide_eq_false c10
    refine l_off S rfl rfl rfl rfl bc10 rfl rfl ?_; clear S a; intro a S
    refine l_off S rfl rfl rfl rfl bc10 rfl rfl ?_; clear S a; intro a S
    refine l_off S rfl rfl rfl rfl bc10 rfl rfl ?_; clear S a; intro a S
    refine l_off S rfl rfl rfl rfl bc10 rfl rfl ?_; clear S a; intro a S
    refine l_pure S (p_pick_f rfl bc10 rfl) rfl rfl rfl ?_; clear S a; intro a S
    refine l_nil ?_
    refine e_then ?_
    refine c_cond (b := false) S rfl (fun h => by cases h) (fun _ => ?_)
    refine wp_skip ?_
    refine e_then ?_
    refine wp_exit ?_
    refine e_then_exit ?_
    refine e_in_exit ?_
    refine e_then ?_
    exact ⟨⟨(i + 1), _, _⟩, ⟨S.only ⟨rfl, trivial⟩, H, ⟨by omega, hV1, hsb7⟩⟩, (show s.size - (i + 1) < s.size - i from by omega)⟩
  ·
   have c6 := bc6
   have c6 := of_decide_eq_false c6
   refine wp_skip ?_
   refine e_then ?_
   refine wp_seq ?_
   refine c_region ?_
   refine l_pure S (p_move rfl) rfl rfl rfl ?_; clear S a; intro a S
   refine l_pure S (p_indexAddr rfl rfl (fun w => ia_array Tryd.underlying63 sz5 (by omega) (by omega))) rfl rfl rfl ?_; clear S a; intro a S
   refine l_read S H (r_tab (i := (HHW.bt s (i : Int)).toNat) rfl (by omega) (hT.1 _ (by omega)) rfl ag5) rfl rfl rfl ?_; clear S a; intro a S
   have hlead := up.V_lead (s := s) (i := i) (by omega) (by omega)
   have hfl := firstT_lt (HHW.bt s (i : Int)).toNat
   revert S hlead hfl
   generalize Lib.firstT (HHW.bt s (i : Int)).toNat = f
   intro S hlead hfl
   refine l_pure S (p_assign rfl) rfl rfl rfl ?_; clear S a; intro a S
   refine l_nil ?_
   refine e_then ?_
   refine wp_seq ?_
   refine c_region ?_
   refine l_pure S (p_move rfl) rfl rfl rfl ?_; clear S a; intro a S
   refine l_pure S (p_and (r := ((f % 8 : Nat) : Int)) rfl rfl (and7 ⟨f, hfl⟩)) rfl rfl rfl ?_; clear S a; intro a S
   refine l_pure S (p_conv rfl (fun w => cv_int (Tryd.underlying5) (Tryd.underlying3) (r := ((f % 8 : Nat) : Int)) (IntWalk.i64_in _ (by omega)))) rfl rfl rfl ?_; clear S a; intro a S
   refine l_pure S (p_assign rfl) rfl rfl rfl ?_; clear S a; intro a S
   refine l_nil ?_
   refine e_then ?_
   refine wp_seq ?_
   refine c_region ?_
   refine l_pure S (p_move rfl) rfl rfl rfl ?_; clear S a; intro a S
   refine l_pure S (p_shr (r := ((f / 16 : Nat) : Int)) rfl rfl (by decide) (shr4 f)) rfl rfl rfl ?_; clear S a; intro a S
   refine l_pure S (p_indexAddr rfl rfl (fun w => ia_array Tryd.underlying84 sz83 (by omega) (by omega))) rfl rfl rfl ?_; clear S a; intro a S
   refine l_read S H (r_pairG (i := 2 * (f / 16)) rfl (by omega) (hT.2 (f / 16) (by omega)).1 (hT.2 (f / 16) (by omega)).2 rfl ag83 sz83) rfl rfl rfl ?_; clear S a; intro a S
   refine l_alloc (cs := #[.int .u8 0, .int .u8 0]) S H rfl (fun w => al zv83) rfl rfl rfl ?_; clear S a H; intro g55 w a H S
   refine l_storeAll (vs := [.int .u8 ((Lib.accLo (f / 16) : Nat) : Int), .int .u8 ((Lib.accHi (f / 16) : Nat) : Int)]) S H rfl rfl rfl sz83 .here rfl (fun v hv => by simp only [List.mem_cons, List.not_mem_nil, or_false] at hv; rcases hv with rfl | rfl <;> rfl) rfl rfl ?_; clear S a H; intro w a H S
   refine l_nil ?_
   refine e_then ?_
   refine wp_seq ?_
   refine c_region ?_
   refine l_pure S (p_move rfl) rfl rfl rfl ?_; clear S a; intro a S
   refine l_nil ?_
   refine e_then ?_
   refine wp_block ?_
   refine wp_seq ?_
   refine c_region ?_
   refine l_pure S (p_eql rfl rfl) rfl rfl rfl ?_; clear S a; intro a S
   refine l_pure S (p_assign rfl) rfl rfl rfl ?_; clear S a; intro a S
   refine l_nil ?_
   refine e_then ?_
   refine c_cond S rfl (fun bc57 => ?_) (fun bc57 => ?_)
   ·
    have c57 := bc57
    have c57 := eq_of_beq c57
    refine wp_seq ?_
    refine wp_seq ?_
    refine d_start (id := 18) [] 19 #[nn,nn,nn,nn,nn,nn,nn,nn,nn,nn,nn,nn,nn,nn,nn,nn,nn,nn,nn] H rfl rfl rfl (fun w H => ?_)
    refine d_pure (i := 0) #[yy,nn,nn,nn,nn,nn,nn,nn,nn,nn,nn,nn,nn,nn,nn,nn,nn,nn,nn] S rfl (p_move rfl) (wanted_none rfl) rfl rfl (by kernel_rfl) (fun _ _ _ h => h) ?_; clear S a; intro a S
    refine d_pure (i := 1) #[yy,yy,nn,nn,nn,nn,nn,nn,nn,nn,nn,nn,nn,nn,nn,nn,nn,nn,nn] S rfl (p_len Tryd.underlying32 rfl) (wanted_none rfl) rfl rfl (by kernel_rfl) (fun _ _ _ h => h) ?_; clear S a; intro a S
    refine d_pure (i := 2) #[yy,yy,yy,nn,nn,nn,nn,nn,nn,nn,nn,nn,nn,nn,nn,nn,nn,nn,nn] S rfl (p_lss rfl rfl) (wanted_none rfl) rfl rfl (by kernel_rfl) (fun _ _ _ h => h) ?_; clear S a; intro a S
    refine d_pure (i := 3) #[yy,yy,yy,yy,nn,nn,nn,nn,nn,nn,nn,nn,nn,nn,nn,nn,nn,nn,nn] S rfl (p_move rfl) (wanted_none rfl) rfl rfl (by kernel_rfl) (fun _ _ _ h => h) ?_; clear S a; intro a S
    refine d_split (S.of 88 rfl) (fun bc59 => ?_) (fun bc59 => ?_)
    ·
     have c59 := bc59
     have c59 := of_decide_eq_true c59
     refine d_off (i := 4) #[yy,yy,yy,yy,yy,nn,nn,nn,nn,nn,nn,nn,nn,nn,nn,nn,nn,nn,nn] S rfl (wanted_off S rfl rfl rfl rfl bc59) rfl rfl (by kernel_rfl) (fun _ _ _ h => h) ?_; clear S a; intro a S
     refine d_off (i := 5) #[yy,yy,yy,yy,yy,yy,nn,nn,nn,nn,nn,nn,nn,nn,nn,nn,nn,nn,nn] S rfl (wanted_off S rfl rfl rfl rfl bc59) rfl rfl (by kernel_rfl) (fun _ _ _ h => h) ?_; clear S a; intro a S
     refine d_off (i := 6) #[yy,yy,yy,yy,yy,yy,yy,nn,nn,nn,nn,nn,nn,nn,nn,nn,nn,nn,nn] S rfl (wanted_off S rfl rfl rfl rfl bc59) rfl rfl (by kernel_rfl) (fun _ _ _ h => h) ?_; clear S a; intro a S
     refine d_off (i := 7) #[yy,yy,yy,yy,yy,yy,yy,yy,nn,nn,nn,nn,nn,nn,nn,nn,nn,nn,nn] S rfl (wanted_off S rfl rfl rfl rfl bc59) rfl rfl (by kernel_rfl) (fun _ _ _ h => h) ?_; clear S a; intro a S
     refine d_off (i := 8) #[yy,yy,yy,yy,yy,yy,yy,yy,yy,nn,nn,nn,nn,nn,nn,nn,nn,nn,nn] S rfl (wanted_off S rfl rfl rfl rfl bc59) rfl rfl (by kernel_rfl) (fun _ _ _ h => h) ?_; clear S a; intro a S
     refine d_off (i := 9) #[yy,yy,yy,yy,yy,yy,yy,yy,yy,yy,nn,nn,nn,nn,nn,nn,nn,nn,nn] S rfl (wanted_off S rfl rfl rfl rfl bc59) rfl rfl (by kernel_rfl) (fun _ _ _ h => h) ?_; clear S a; intro a S
     refine d_pure (i := 10) #[yy,yy,yy,yy,yy,yy,yy,yy,yy,yy,yy,nn,nn,nn,nn,nn,nn,nn,nn] S rfl (p_pick_t rfl bc59 rfl) (wanted_none rfl) rfl rfl (by kernel_rfl) (fun _ _ _ h => h) ?_; clear S a; intro a S
     refine d_pure (i := 11) #[yy,yy,yy,yy,yy,yy,yy,yy,yy,yy,yy,yy,nn,nn,nn,nn,nn,nn,nn] S rfl (p_move rfl) (wanted_none rfl) rfl rfl (by kernel_rfl) (fun _ _ _ h => h) ?_; clear S a; intro a S
     refine d_off (i := 12) #[yy,yy,yy,yy,yy,yy,yy,yy,yy,yy,yy,yy,yy,nn,nn,nn,nn,nn,nn] S rfl (wanted_off S rfl rfl rfl rfl rfl) rfl rfl (by kernel_rfl) (fun _ _ _ h => h) ?_; clear S a; intro a S
     refine d_off (i := 13) #[yy,yy,yy,yy,yy,yy,yy,yy,yy,yy,yy,yy,yy,yy,nn,nn,nn,nn,nn] S rfl (wanted_off S rfl rfl rfl rfl rfl) rfl rfl (by kernel_rfl) (fun _ _ _ h => h) ?_; clear S a; intro a S
     refine d_off (i := 14) #[yy,yy,yy,yy,yy,yy,yy,yy,yy,yy,yy,yy,yy,yy,yy,nn,nn,nn,nn] S rfl (wanted_off S rfl rfl rfl rfl rfl) rfl rfl (by kernel_rfl) (fun _ _ _ h => h) ?_; clear S a; intro a S
     refine d_off (i := 15) #[yy,yy,yy,yy,yy,yy,yy,yy,yy,yy,yy,yy,yy,yy,yy,yy,nn,nn,nn] S rfl (wanted_off S rfl rfl rfl rfl rfl) rfl rfl (by kernel_rfl) (fun _ _ _ h => h) ?_; clear S a; intro a S
     refine d_off (i := 16) #[yy,yy,yy,yy,yy,yy,yy,yy,yy,yy,yy,yy,yy,yy,yy,yy,yy,nn,nn] S rfl (wanted_off S rfl rfl rfl rfl rfl) rfl rfl (by kernel_rfl) (fun _ _ _ h => h) ?_; clear S a; intro a S
     refine d_off (i := 17) #[yy,yy,yy,yy,yy,yy,yy,yy,yy,yy,yy,yy,yy,yy,yy,yy,yy,yy,nn] S rfl (wanted_off S rfl rfl rfl rfl rfl) rfl rfl (by kernel_rfl) (fun _ _ _ h => h) ?_; clear S a; intro a S
     refine d_pure (i := 18) #[yy,yy,yy,yy,yy,yy,yy,yy,yy,yy,yy,yy,yy,yy,yy,yy,yy,yy,yy] S rfl (p_pick_t rfl rfl rfl) (wanted_none rfl) rfl rfl (by kernel_rfl) (fun _ _ _ h => h) ?_; clear S a; intro a S
     refine d_done (by kernel_rfl) ?_
     refine e_then ?_
     refine c_cond (b := true) S rfl (fun _ => ?_) (fun h => by cases h)
     refine wp_seq ?_
     refine c_region ?_
     refine l_pure S (p_assign rfl) rfl rfl rfl ?_; clear S a; intro a S
     refine l_nil ?_
     refine e_then ?_
     refine wp_ret ?_
     refine e_then_ret ?_
     refine e_in_ret ?_
     refine e_in_ret ?_
     refine e_then_ret ?_
     refine e_in_ret ?_
     refine e_then_ret ?_
     have hbad : up.V s i = false := by
      have e1 : Lib.checkN (s.size - i) (HHW.bt s ((i + 1 : Nat) : Int)).toNat (HHW.bt s ((i + 2 : Nat) : Int)).toNat (HHW.bt s ((i + 3 : Nat) : Int)).toNat (f % 8) (Lib.accLo (f / 16)) (Lib.accHi (f / 16)) = none := by
       unfold Lib.checkN; repeat' split
       all_goals first | rfl | (exfalso; omega)
      rw [hlead, e1]
     exact r_ret1 S rfl rfl ⟨by rw [hV, hbad], H.below⟩
    ·
     have c59 := bc59
     have c59 := of_decide_eq_false c59
     refine d_pure (i := 4) #[yy,yy,yy,yy,yy,nn,nn,nn,nn,nn,nn,nn,nn,nn,nn,nn,nn,nn,nn] S rfl (p_move rfl) (wanted_on S rfl rfl rfl rfl bc59) rfl rfl (by kernel_rfl) (fun _ _ _ h => h) ?_; clear S a; intro a S
     refine d_pure (i := 5) #[yy,yy,yy,yy,yy,yy,nn,nn,nn,nn,nn,nn,nn,nn,nn,nn,nn,nn,nn] S rfl (p_indexAddr rfl rfl (fun w => ia_slice Tryd.underlying32 sz5 (by omega) (by omega))) (wanted_on S rfl rfl rfl rfl bc59) rfl rfl (by kernel_rfl) (fun _ _ _ h => h) ?_; clear S a; intro a S
     refine d_read (i := 6) #[yy,yy,yy,yy,yy,yy,yy,nn,nn,nn,nn,nn,nn,nn,nn,nn,nn,nn,nn] S H rfl (r_byte (l := ((ints s).drop i)) (i := 1) (v := HHW.bt s ((i + 1 : Nat) : Int)) rfl (by omega) ag5 hRo4 rfl (int_at s rfl (by omega))) (wanted_on S rfl rfl rfl rfl bc59) rfl rfl (by kernel_rfl) (fun _ _ _ h => h) ?_; clear S a; intro a S
     refine d_pure (i := 7) #[yy,yy,yy,yy,yy,yy,yy,yy,nn,nn,nn,nn,nn,nn,nn,nn,nn,nn,nn] S rfl (p_fieldAddr rfl (fun w => fa83_0 w _ _)) (wanted_on S rfl rfl rfl rfl bc59) rfl rfl (by kernel_rfl) (fun _ _ _ h => h) ?_; clear S a; intro a S
     refine d_read (i := 8) #[yy,yy,yy,yy,yy,yy,yy,yy,yy,nn,nn,nn,nn,nn,nn,nn,nn,nn,nn] S H rfl (r_load rfl List.mem_cons_self rfl (fun w hc => ld1 ag5 hc)) (wanted_on S rfl rfl rfl rfl bc59) rfl rfl (by kernel_rfl) (fun _ _ _ h => h) ?_; clear S a; intro a S
     refine d_pure (i := 9) #[yy,yy,yy,yy,yy,yy,yy,yy,yy,yy,nn,nn,nn,nn,nn,nn,nn,nn,nn] S rfl (p_lss rfl rfl) (wanted_on S rfl rfl rfl rfl bc59) rfl rfl (by kernel_rfl) (fun _ _ _ h => h) ?_; clear S a; intro a S
     refine d_pure (i := 10) #[yy,yy,yy,yy,yy,yy,yy,yy,yy,yy,yy,nn,nn,nn,nn,nn,nn,nn,nn] S rfl (p_pick_f rfl bc59 rfl) (wanted_none rfl) rfl rfl (by kernel_rfl) (fun _ _ _ h => h) ?_; clear S a; intro a S
     refine d_pure (i := 11) #[yy,yy,yy,yy,yy,yy,yy,yy,yy,yy,yy,yy,nn,nn,nn,nn,nn,nn,nn] S rfl (p_move rfl) (wanted_none rfl) rfl rfl (by kernel_rfl) (fun _ _ _ h => h) ?_; clear S a; intro a S
     refine d_split (S.of 96 rfl) (fun bc65 => ?_) (fun bc65 => ?_)
     ·
      have c65 := bc65
      have c65 := of_decide_eq_true c65
      refine d_off (i := 12) #[yy,yy,yy,yy,yy,yy,yy,yy,yy,yy,yy,yy,yy,nn,nn,nn,nn,nn,nn] S rfl (wanted_off S rfl rfl rfl rfl bc65) rfl rfl (by kernel_rfl) (fun _ _ _ h => h) ?_; clear S a; intro a S
      refine d_off (i := 13) #[yy,yy,yy,yy,yy,yy,yy,yy,yy,yy,yy,yy,yy,yy,nn,nn,nn,nn,nn] S rfl (wanted_off S rfl rfl rfl rfl bc65) rfl rfl (by kernel_rfl) (fun _ _ _ h => h) ?_; clear S a; intro a S
      refine d_off (i := 14) #[yy,yy,yy,yy,yy,yy,yy,yy,yy,yy,yy,yy,yy,yy,yy,nn,nn,nn,nn] S rfl (wanted_off S rfl rfl rfl rfl bc65) rfl rfl (by kernel_rfl) (fun _ _ _ h => h) ?_; clear S a; intro a S
      refine d_off (i := 15) #[yy,yy,yy,yy,yy,yy,yy,yy,yy,yy,yy,yy,yy,yy,yy,yy,nn,nn,nn] S rfl (wanted_off S rfl rfl rfl rfl bc65) rfl rfl (by kernel_rfl) (fun _ _ _ h => h) ?_; clear S a; intro a S
      refine d_off (i := 16) #[yy,yy,yy,yy,yy,yy,yy,yy,yy,yy,yy,yy,yy,yy,yy,yy,yy,nn,nn] S rfl (wanted_off S rfl rfl rfl rfl bc65) rfl rfl (by kernel_rfl) (fun _ _ _ h => h) ?_; clear S a; intro a S
      refine d_off (i := 17) #[yy,yy,yy,yy,yy,yy,yy,yy,yy,yy,yy,yy,yy,yy,yy,yy,yy,yy,nn] S rfl (wanted_off S rfl rfl rfl rfl bc65) rfl rfl (by kernel_rfl) (fun _ _ _ h => h) ?_; clear S a; intro a S
      refine d_pure (i := 18) #[yy,yy,yy,yy,yy,yy,yy,yy,yy,yy,yy,yy,yy,yy,yy,yy,yy,yy,yy] S rfl (p_pick_t rfl bc65 rfl) (wanted_none rfl) rfl rfl (by kernel_rfl) (fun _ _ _ h => h) ?_; clear S a; intro a S
      refine d_done (by kernel_rfl) ?_
      refine e_then ?_
      refine c_cond (b := true) S rfl (fun _ => ?_) (fun h => by cases h)
      refine wp_seq ?_
      refine c_region ?_
      refine l_pure S (p_assign rfl) rfl rfl rfl ?_; clear S a; intro a S
      refine l_nil ?_
      refine e_then ?_
      refine wp_ret ?_
      refine e_then_ret ?_
      refine e_in_ret ?_
      refine e_in_ret ?_
      refine e_then_ret ?_
      refine e_in_ret ?_
      refine e_then_ret ?_
      have hbad : up.V s i = false := by
       have e1 : Lib.checkN (s.size - i) (HHW.bt s ((i + 1 : Nat) : Int)).toNat (HHW.bt s ((i + 2 : Nat) : Int)).toNat (HHW.bt s ((i + 3 : Nat) : Int)).toNat (f % 8) (Lib.accLo (f / 16)) (Lib.accHi (f / 16)) = none := by
        unfold Lib.checkN; repeat' split
        all_goals first | rfl | (exfalso; omega)
       rw [hlead, e1]
      exact r_ret1 S rfl rfl ⟨by rw [hV, hbad], H.below⟩
     ·
      have c65 := bc65
      have c65 := of_decide_eq_false c65
      refine d_pure (i := 12) #[yy,yy,yy,yy,yy,yy,yy,yy,yy,yy,yy,yy,yy,nn,nn,nn,nn,nn,nn] S rfl (p_fieldAddr rfl (fun w => fa83_1 w _ _)) (wanted_on S rfl rfl rfl rfl bc65) rfl rfl (by kernel_rfl) (fun _ _ _ h => h) ?_; clear S a; intro a S
      refine d_read (i := 13) #[yy,yy,yy,yy,yy,yy,yy,yy,yy,yy,yy,yy,yy,yy,nn,nn,nn,nn,nn] S H rfl (r_load rfl List.mem_cons_self rfl (fun w hc => ld1 ag5 hc)) (wanted_on S rfl rfl rfl rfl bc65) rfl rfl (by kernel_rfl) (fun _ _ _ h => h) ?_; clear S a; intro a S
      refine d_pure (i := 14) #[yy,yy,yy,yy,yy,yy,yy,yy,yy,yy,yy,yy,yy,yy,yy,nn,nn,nn,nn] S rfl (p_move rfl) (wanted_on S rfl rfl rfl rfl bc65) rfl rfl (by kernel_rfl) (fun _ _ _ h => h) ?_; clear S a; intro a S
      refine d_pure (i := 15) #[yy,yy,yy,yy,yy,yy,yy,yy,yy,yy,yy,yy,yy,yy,yy,yy,nn,nn,nn] S rfl (p_indexAddr rfl rfl (fun w => ia_slice Tryd.underlying32 sz5 (by omega) (by omega))) (wanted_on S rfl rfl rfl rfl bc65) rfl rfl (by kernel_rfl) (fun _ _ _ h => h) ?_; clear S a; intro a S
      refine d_read (i := 16) #[yy,yy,yy,yy,yy,yy,yy,yy,yy,yy,yy,yy,yy,yy,yy,yy,yy,nn,nn] S H rfl (r_byte (l := ((ints s).drop i)) (i := 1) (v := HHW.bt s ((i + 1 : Nat) : Int)) rfl (by omega) ag5 hRo4 rfl (int_at s rfl (by omega))) (wanted_on S rfl rfl rfl rfl bc65) rfl rfl (by kernel_rfl) (fun _ _ _ h => h) ?_; clear S a; intro a S
      refine d_pure (i := 17) #[yy,yy,yy,yy,yy,yy,yy,yy,yy,yy,yy,yy,yy,yy,yy,yy,yy,yy,nn] S rfl (p_lss rfl rfl) (wanted_on S rfl rfl rfl rfl bc65) rfl rfl (by kernel_rfl) (fun _ _ _ h => h) ?_; clear S a; intro a S
      refine d_pure (i := 18) #[yy,yy,yy,yy,yy,yy,yy,yy,yy,yy,yy,yy,yy,yy,yy,yy,yy,yy,yy] S rfl (p_pick_f rfl bc65 rfl) (wanted_none rfl) rfl rfl (by kernel_rfl) (fun _ _ _ h => h) ?_; clear S a; intro a S
      refine d_done (by kernel_rfl) ?_
      refine e_then ?_
      refine c_cond S rfl (fun bc70 => ?_) (fun bc70 => ?_)
      ·
       have c70 := bc70
       have c70 := of_decide_eq_true c70
       refine wp_seq ?_
       refine c_region ?_
       refine l_pure S (p_assign rfl) rfl rfl rfl ?_; clear S a; intro a S
       refine l_nil ?_
       refine e_then ?_
       refine wp_ret ?_
       refine e_then_ret ?_
       refine e_in_ret ?_
       refine e_in_ret ?_
       refine e_then_ret ?_
       refine e_in_ret ?_
       refine e_then_ret ?_
       have hbad : up.V s i = false := by
        have e1 : Lib.checkN (s.size - i) (HHW.bt s ((i + 1 : Nat) : Int)).toNat (HHW.bt s ((i + 2 : Nat) : Int)).toNat (HHW.bt s ((i + 3 : Nat) : Int)).toNat (f % 8) (Lib.accLo (f / 16)) (Lib.accHi (f / 16)) = none := by
         unfold Lib.checkN; repeat' split
         all_goals first | rfl | (exfalso; omega)
        rw [hlead, e1]
       exact r_ret1 S rfl rfl ⟨by rw [hV, hbad], H.below⟩
      ·
       have c70 := bc70
       have c70 := of_decide_eq_false c70
       refine wp_skip ?_
       refine e_then ?_
       refine c_region ?_
       refine l_pure S (p_move rfl) rfl rfl rfl ?_; clear S a; intro a S
       have hVk : up.V s 0 = up.V s (i + 2) := hV.trans (hlead.trans (by unfold Lib.checkN; simp only [show f % 8 = 2 by omega, if_true, if_false, Nat.reduceEqDiff]; rw [if_neg (by omega)]))
       have hsb72 := hq.drop (m := 2) (by omega)
       refine l_pure S (p_slice rfl (o_some rfl) (fun _ _ => o_none) (fun _ _ => o_none) (fun w => sl_sb_lo (m := 2) Tryd.underlying32 sz5 rfl (by omega))) rfl rfl rfl ?_; clear S a; intro a S
       rw [List.drop_drop] at S hsb72
       revert S; revert hsb72
       generalize cutAt _ _ 2 1 = Ab72
       generalize _ - 2 = cb72
       intro hsb72 S
       have hln73 : ((ints s).drop (i + 2)).length = s.size - (i + 2) := by rw [List.length_drop, ints_len]
       refine l_pure S (p_assign rfl) rfl rfl rfl ?_; clear S a; intro a S
       refine l_nil ?_
       refine e_in 4 ?_
       refine e_in 1 ?_
       refine e_then ?_
       exact ⟨⟨(i + 2), _, _⟩, ⟨S.only ⟨rfl, trivial⟩, H.tail, ⟨by omega, hVk, hsb72⟩⟩, (show s.size - (i + 2) < s.size - i from by omega)⟩
   ·
    have c57 := bc57
    have c57 := ne_of_beq_false c57
    refine wp_seq ?_
    refine c_region ?_
    refine l_pure S (p_eql rfl rfl) rfl rfl rfl ?_; clear S a; intro a S
    refine l_pure S (p_assign rfl) rfl rfl rfl ?_; clear S a; intro a S
    refine l_nil ?_
    refine e_then ?_
    refine c_cond S rfl (fun bc75 => ?_) (fun bc75 => ?_)
    ·
     have c75 := bc75
     have c75 := eq_of_beq c75
     refine wp_seq ?_
     refine wp_seq ?_
     refine d_start (id := 22) [] 31 #[nn,nn,nn,nn,nn,nn,nn,nn,nn,nn,nn,nn,nn,nn,nn,nn,nn,nn,nn,nn,nn,nn,nn,nn,nn,nn,nn,nn,nn,nn,nn] H rfl rfl rfl (fun w H => ?_)
     refine d_pure (i := 0) #[yy,nn,nn,nn,nn,nn,nn,nn,nn,nn,nn,nn,nn,nn,nn,nn,nn,nn,nn,nn,nn,nn,nn,nn,nn,nn,nn,nn,nn,nn,nn] S rfl (p_move rfl) (wanted_none rfl) rfl rfl (by kernel_rfl) (fun _ _ _ h => h) ?_; clear S a; intro a S
     refine d_pure (i := 1) #[yy,yy,nn,nn,nn,nn,nn,nn,nn,nn,nn,nn,nn,nn,nn,nn,nn,nn,nn,nn,nn,nn,nn,nn,nn,nn,nn,nn,nn,nn,nn] S rfl (p_len Tryd.underlying32 rfl) (wanted_none rfl) rfl rfl (by kernel_rfl) (fun _ _ _ h => h) ?_; clear S a; intro a S
     refine d_pure (i := 2) #[yy,yy,yy,nn,nn,nn,nn,nn,nn,nn,nn,nn,nn,nn,nn,nn,nn,nn,nn,nn,nn,nn,nn,nn,nn,nn,nn,nn,nn,nn,nn] S rfl (p_lss rfl rfl) (wanted_none rfl) rfl rfl (by kernel_rfl) (fun _ _ _ h => h) ?_; clear S a; intro a S
     refine d_pure (i := 3) #[yy,yy,yy,yy,nn,nn,nn,nn,nn,nn,nn,nn,nn,nn,nn,nn,nn,nn,nn,nn,nn,nn,nn,nn,nn,nn,nn,nn,nn,nn,nn] S rfl (p_move rfl) (wanted_none rfl) rfl rfl (by kernel_rfl) (fun _ _ _ h => h) ?_; clear S a; intro a S
     refine d_split (S.of 111 rfl) (fun bc77 => ?_) (fun bc77 => ?_)
     ·
      have c77 := bc77
      have c77 := of_decide_eq_true c77
      refine d_off (i := 4) #[yy,yy,yy,yy,yy,nn,nn,nn,nn,nn,nn,nn,nn,nn,nn,nn,nn,nn,nn,nn,nn,nn,nn,nn,nn,nn,nn,nn,nn,nn,nn] S rfl (wanted_off S rfl rfl rfl rfl bc77) rfl rfl (by kernel_rfl) (fun _ _ _ h => h) ?_; clear S a; intro a S
      refine d_off (i := 5) #[yy,yy,yy,yy,yy,yy,nn,nn,nn,nn,nn,nn,nn,nn,nn,nn,nn,nn,nn,nn,nn,nn,nn,nn,nn,nn,nn,nn,nn,nn,nn] S rfl (wanted_off S rfl rfl rfl rfl bc77) rfl rfl (by kernel_rfl) (fun _ _ _ h => h) ?_; clear S a; intro a S
      refine d_off (i := 6) #[yy,yy,yy,yy,yy,yy,yy,nn,nn,nn,nn,nn,nn,nn,nn,nn,nn,nn,nn,nn,nn,nn,nn,nn,nn,nn,nn,nn,nn,nn,nn] S rfl (wanted_off S rfl rfl rfl rfl bc77) rfl rfl (by kernel_rfl) (fun _ _ _ h => h) ?_; clear S a; intro a S
      refine d_off (i := 7) #[yy,yy,yy,yy,yy,yy,yy,yy,nn,nn,nn,nn,nn,nn,nn,nn,nn,nn,nn,nn,nn,nn,nn,nn,nn,nn,nn,nn,nn,nn,nn] S rfl (wanted_off S rfl rfl rfl rfl bc77) rfl rfl (by kernel_rfl) (fun _ _ _ h => h) ?_; clear S a; intro a S
      refine d_off (i := 8) #[yy,yy,yy,yy,yy,yy,yy,yy,yy,nn,nn,nn,nn,nn,nn,nn,nn,nn,nn,nn,nn,nn,nn,nn,nn,nn,nn,nn,nn,nn,nn] S rfl (wanted_off S rfl rfl rfl rfl bc77) rfl rfl (by kernel_rfl) (fun _ _ _ h => h) ?_; clear S a; intro a S
      refine d_off (i := 9) #[yy,yy,yy,yy,yy,yy,yy,yy,yy,yy,nn,nn,nn,nn,nn,nn,nn,nn,nn,nn,nn,nn,nn,nn,nn,nn,nn,nn,nn,nn,nn] S rfl (wanted_off S rfl rfl rfl rfl bc77) rfl rfl (by kernel_rfl) (fun _ _ _ h => h) ?_; clear S a; intro a S
      refine d_pure (i := 10) #[yy,yy,yy,yy,yy,yy,yy,yy,yy,yy,yy,nn,nn,nn,nn,nn,nn,nn,nn,nn,nn,nn,nn,nn,nn,nn,nn,nn,nn,nn,nn] S rfl (p_pick_t rfl bc77 rfl) (wanted_none rfl) rfl rfl (by kernel_rfl) (fun _ _ _ h => h) ?_; clear S a; intro a S
      refine d_pure (i := 11) #[yy,yy,yy,yy,yy,yy,yy,yy,yy,yy,yy,yy,nn,nn,nn,nn,nn,nn,nn,nn,nn,nn,nn,nn,nn,nn,nn,nn,nn,nn,nn] S rfl (p_move rfl) (wanted_none rfl) rfl rfl (by kernel_rfl) (fun _ _ _ h => h) ?_; clear S a; intro a S
      refine d_off (i := 12) #[yy,yy,yy,yy,yy,yy,yy,yy,yy,yy,yy,yy,yy,nn,nn,nn,nn,nn,nn,nn,nn,nn,nn,nn,nn,nn,nn,nn,nn,nn,nn] S rfl (wanted_off S rfl rfl rfl rfl rfl) rfl rfl (by kernel_rfl) (fun _ _ _ h => h) ?_; clear S a; intro a S
      refine d_off (i := 13) #[yy,yy,yy,yy,yy,yy,yy,yy,yy,yy,yy,yy,yy,yy,nn,nn,nn,nn,nn,nn,nn,nn,nn,nn,nn,nn,nn,nn,nn,nn,nn] S rfl (wanted_off S rfl rfl rfl rfl rfl) rfl rfl (by kernel_rfl) (fun _ _ _ h => h) ?_; clear S a; intro a S
      refine d_off (i := 14) #[yy,yy,yy,yy,yy,yy,yy,yy,yy,yy,yy,yy,yy,yy,yy,nn,nn,nn,nn,nn,nn,nn,nn,nn,nn,nn,nn,nn,nn,nn,nn] S rfl (wanted_off S rfl rfl rfl rfl rfl) rfl rfl (by kernel_rfl) (fun _ _ _ h => h) ?_; clear S a; intro a S
      refine d_off (i := 15) #[yy,yy,yy,yy,yy,yy,yy,yy,yy,yy,yy,yy,yy,yy,yy,yy,nn,nn,nn,nn,nn,nn,nn,nn,nn,nn,nn,nn,nn,nn,nn] S rfl (wanted_off S rfl rfl rfl rfl rfl) rfl rfl (by kernel_rfl) (fun _ _ _ h => h) ?_; clear S a; intro a S
      refine d_off (i := 16) #[yy,yy,yy,yy,yy,yy,yy,yy,yy,yy,yy,yy,yy,yy,yy,yy,yy,nn,nn,nn,nn,nn,nn,nn,nn,nn,nn,nn,nn,nn,nn] S rfl (wanted_off S rfl rfl rfl rfl rfl) rfl rfl (by kernel_rfl) (fun _ _ _ h => h) ?_; clear S a; intro a S
      refine d_off (i := 17) #[yy,yy,yy,yy,yy,yy,yy,yy,yy,yy,yy,yy,yy,yy,yy,yy,yy,yy,nn,nn,nn,nn,nn,nn,nn,nn,nn,nn,nn,nn,nn] S rfl (wanted_off S rfl rfl rfl rfl rfl) rfl rfl (by kernel_rfl) (fun _ _ _ h => h) ?_; clear S a; intro a S
      refine d_pure (i := 18) #[yy,yy,yy,yy,yy,yy,yy,yy,yy,yy,yy,yy,yy,yy,yy,yy,yy,yy,yy,nn,nn,nn,nn,nn,nn,nn,nn,nn,nn,nn,nn] S rfl (p_pick_t rfl rfl rfl) (wanted_none rfl) rfl rfl (by kernel_rfl) (fun _ _ _ h => h) ?_; clear S a; intro a S
      refine d_pure (i := 19) #[yy,yy,yy,yy,yy,yy,yy,yy,yy,yy,yy,yy,yy,yy,yy,yy,yy,yy,yy,yy,nn,nn,nn,nn,nn,nn,nn,nn,nn,nn,nn] S rfl (p_move rfl) (wanted_none rfl) rfl rfl (by kernel_rfl) (fun _ _ _ h => h) ?_; clear S a; intro a S
      refine d_off (i := 20) #[yy,yy,yy,yy,yy,yy,yy,yy,yy,yy,yy,yy,yy,yy,yy,yy,yy,yy,yy,yy,yy,nn,nn,nn,nn,nn,nn,nn,nn,nn,nn] S rfl (wanted_off S rfl rfl rfl rfl rfl) rfl rfl (by kernel_rfl) (fun _ _ _ h => h) ?_; clear S a; intro a S
      refine d_off (i := 21) #[yy,yy,yy,yy,yy,yy,yy,yy,yy,yy,yy,yy,yy,yy,yy,yy,yy,yy,yy,yy,yy,yy,nn,nn,nn,nn,nn,nn,nn,nn,nn] S rfl (wanted_off S rfl rfl rfl rfl rfl) rfl rfl (by kernel_rfl) (fun _ _ _ h => h) ?_; clear S a; intro a S
      refine d_off (i := 22) #[yy,yy,yy,yy,yy,yy,yy,yy,yy,yy,yy,yy,yy,yy,yy,yy,yy,yy,yy,yy,yy,yy,yy,nn,nn,nn,nn,nn,nn,nn,nn] S rfl (wanted_off S rfl rfl rfl rfl rfl) rfl rfl (by kernel_rfl) (fun _ _ _ h => h) ?_; clear S a; intro a S
      refine d_off (i := 23) #[yy,yy,yy,yy,yy,yy,yy,yy,yy,yy,yy,yy,yy,yy,yy,yy,yy,yy,yy,yy,yy,yy,yy,yy,nn,nn,nn,nn,nn,nn,nn] S rfl (wanted_off S rfl rfl rfl rfl rfl) rfl rfl (by kernel_rfl) (fun _ _ _ h => h) ?_; clear S a; intro a S
      refine d_pure (i := 24) #[yy,yy,yy,yy,yy,yy,yy,yy,yy,yy,yy,yy,yy,yy,yy,yy,yy,yy,yy,yy,yy,yy,yy,yy,yy,nn,nn,nn,nn,nn,nn] S rfl (p_pick_t rfl rfl rfl) (wanted_none rfl) rfl rfl (by kernel_rfl) (fun _ _ _ h => h) ?_; clear S a; intro a S
      refine d_pure (i := 25) #[yy,yy,yy,yy,yy,yy,yy,yy,yy,yy,yy,yy,yy,yy,yy,yy,yy,yy,yy,yy,yy,yy,yy,yy,yy,yy,nn,nn,nn,nn,nn] S rfl (p_move rfl) (wanted_none rfl) rfl rfl (by kernel_rfl) (fun _ _ _ h => h) ?_; clear S a; intro a S
      refine d_off (i := 26) #[yy,yy,yy,yy,yy,yy,yy,yy,yy,yy,yy,yy,yy,yy,yy,yy,yy,yy,yy,yy,yy,yy,yy,yy,yy,yy,yy,nn,nn,nn,nn] S rfl (wanted_off S rfl rfl rfl rfl rfl) rfl rfl (by kernel_rfl) (fun _ _ _ h => h) ?_; clear S a; intro a S
      refine d_off (i := 27) #[yy,yy,yy,yy,yy,yy,yy,yy,yy,yy,yy,yy,yy,yy,yy,yy,yy,yy,yy,yy,yy,yy,yy,yy,yy,yy,yy,yy,nn,nn,nn] S rfl (wanted_off S rfl rfl rfl rfl rfl) rfl rfl (by kernel_rfl) (fun _ _ _ h => h) ?_; clear S a; intro a S
      refine d_off (i := 28) #[yy,yy,yy,yy,yy,yy,yy,yy,yy,yy,yy,yy,yy,yy,yy,yy,yy,yy,yy,yy,yy,yy,yy,yy,yy,yy,yy,yy,yy,nn,nn] S rfl (wanted_off S rfl rfl rfl rfl rfl) rfl rfl (by kernel_rfl) (fun _ _ _ h => h) ?_; clear S a; intro a S
      refine d_off (i := 29) #[yy,yy,yy,yy,yy,yy,yy,yy,yy,yy,yy,yy,yy,yy,yy,yy,yy,yy,yy,yy,yy,yy,yy,yy,yy,yy,yy,yy,yy,yy,nn] S rfl (wanted_off S rfl rfl rfl rfl rfl) rfl rfl (by kernel_rfl) (fun _ _ _ h => h) ?_; clear S a; intro a S
      refine d_pure (i := 30) #[yy,yy,yy,yy,yy,yy,yy,yy,yy,yy,yy,yy,yy,yy,yy,yy,yy,yy,yy,yy,yy,yy,yy,yy,yy,yy,yy,yy,yy,yy,yy] S rfl (p_pick_t rfl rfl rfl) (wanted_none rfl) rfl rfl (by kernel_rfl) (fun _ _ _ h => h) ?_; clear S a; intro a S
      refine d_done (by kernel_rfl) ?_
      refine e_then ?_
      refine c_cond (b := true) S rfl (fun _ => ?_) (fun h => by cases h)
      refine wp_seq ?_
      refine c_region ?_
      refine l_pure S (p_assign rfl) rfl rfl rfl ?_; clear S a; intro a S
      refine l_nil ?_
      refine e_then ?_
      refine wp_ret ?_
      refine e_then_ret ?_
      refine e_in_ret ?_
      refine e_in_ret ?_
      refine e_then_ret ?_
      refine e_in_ret ?_
      refine e_then_ret ?_
      have hbad : up.V s i = false := by
       have e1 : Lib.checkN (s.size - i) (HHW.bt s ((i + 1 : Nat) : Int)).toNat (HHW.bt s ((i + 2 : Nat) : Int)).toNat (HHW.bt s ((i + 3 : Nat) : Int)).toNat (f % 8) (Lib.accLo (f / 16)) (Lib.accHi (f / 16)) = none := by
        unfold Lib.checkN; repeat' split
        all_goals first | rfl | (exfalso; omega)
       rw [hlead, e1]
      exact r_ret1 S rfl rfl ⟨by rw [hV, hbad], H.below⟩
     ·
      have c77 := bc77
      have c77 := of_decide_eq_false c77
      refine d_pure (i := 4) #[yy,yy,yy,yy,yy,nn,nn,nn,nn,nn,nn,nn,nn,nn,nn,nn,nn,nn,nn,nn,nn,nn,nn,nn,nn,nn,nn,nn,nn,nn,nn] S rfl (p_move rfl) (wanted_on S rfl rfl rfl rfl bc77) rfl rfl (by kernel_rfl) (fun _ _ _ h => h) ?_; clear S a; intro a S
      refine d_pure (i := 5) #[yy,yy,yy,yy,yy,yy,nn,nn,nn,nn,nn,nn,nn,nn,nn,nn,nn,nn,nn,nn,nn,nn,nn,nn,nn,nn,nn,nn,nn,nn,nn] S rfl (p_indexAddr rfl rfl (fun w => ia_slice Tryd.underlying32 sz5 (by omega) (by omega))) (wanted_on S rfl rfl rfl rfl bc77) rfl rfl (by kernel_rfl) (fun _ _ _ h => h) ?_; clear S a; intro a S
      refine d_read (i := 6) #[yy,yy,yy,yy,yy,yy,yy,nn,nn,nn,nn,nn,nn,nn,nn,nn,nn,nn,nn,nn,nn,nn,nn,nn,nn,nn,nn,nn,nn,nn,nn] S H rfl (r_byte (l := ((ints s).drop i)) (i := 1) (v := HHW.bt s ((i + 1 : Nat) : Int)) rfl (by omega) ag5 hRo4 rfl (int_at s rfl (by omega))) (wanted_on S rfl rfl rfl rfl bc77) rfl rfl (by kernel_rfl) (fun _ _ _ h => h) ?_; clear S a; intro a S
      refine d_pure (i := 7) #[yy,yy,yy,yy,yy,yy,yy,yy,nn,nn,nn,nn,nn,nn,nn,nn,nn,nn,nn,nn,nn,nn,nn,nn,nn,nn,nn,nn,nn,nn,nn] S rfl (p_fieldAddr rfl (fun w => fa83_0 w _ _)) (wanted_on S rfl rfl rfl rfl bc77) rfl rfl (by kernel_rfl) (fun _ _ _ h => h) ?_; clear S a; intro a S
      refine d_read (i := 8) #[yy,yy,yy,yy,yy,yy,yy,yy,yy,nn,nn,nn,nn,nn,nn,nn,nn,nn,nn,nn,nn,nn,nn,nn,nn,nn,nn,nn,nn,nn,nn] S H rfl (r_load rfl List.mem_cons_self rfl (fun w hc => ld1 ag5 hc)) (wanted_on S rfl rfl rfl rfl bc77) rfl rfl (by kernel_rfl) (fun _ _ _ h => h) ?_; clear S a; intro a S
      refine d_pure (i := 9) #[yy,yy,yy,yy,yy,yy,yy,yy,yy,yy,nn,nn,nn,nn,nn,nn,nn,nn,nn,nn,nn,nn,nn,nn,nn,nn,nn,nn,nn,nn,nn] S rfl (p_lss rfl rfl) (wanted_on S rfl rfl rfl rfl bc77) rfl rfl (by kernel_rfl) (fun _ _ _ h => h) ?_; clear S a; intro a S
      refine d_pure (i := 10) #[yy,yy,yy,yy,yy,yy,yy,yy,yy,yy,yy,nn,nn,nn,nn,nn,nn,nn,nn,nn,nn,nn,nn,nn,nn,nn,nn,nn,nn,nn,nn] S rfl (p_pick_f rfl bc77 rfl) (wanted_none rfl) rfl rfl (by kernel_rfl) (fun _ _ _ h => h) ?_; clear S a; intro a S
      refine d_pure (i := 11) #[yy,yy,yy,yy,yy,yy,yy,yy,yy,yy,yy,yy,nn,nn,nn,nn,nn,nn,nn,nn,nn,nn,nn,nn,nn,nn,nn,nn,nn,nn,nn] S rfl (p_move rfl) (wanted_none rfl) rfl rfl (by kernel_rfl) (fun _ _ _ h => h) ?_; clear S a; intro a S
      refine d_split (S.of 119 rfl) (fun bc85 => ?_) (fun bc85 => ?_)
      ·
       have c85 := bc85
       have c85 := of_decide_eq_true c85
       refine d_off (i := 12) #[yy,yy,yy,yy,yy,yy,yy,yy,yy,yy,yy,yy,yy,nn,nn,nn,nn,nn,nn,nn,nn,nn,nn,nn,nn,nn,nn,nn,nn,nn,nn] S rfl (wanted_off S rfl rfl rfl rfl bc85) rfl rfl (by kernel_rfl) (fun _ _ _ h => h) ?_; clear S a; intro a S
       refine d_off (i := 13) #[yy,yy,yy,yy,yy,yy,yy,yy,yy,yy,yy,yy,yy,yy,nn,nn,nn,nn,nn,nn,nn,nn,nn,nn,nn,nn,nn,nn,nn,nn,nn] S rfl (wanted_off S rfl rfl rfl rfl bc85) rfl rfl (by kernel_rfl) (fun _ _ _ h => h) ?_; clear S a; intro a S
       refine d_off (i := 14) #[yy,yy,yy,yy,yy,yy,yy,yy,yy,yy,yy,yy,yy,yy,yy,nn,nn,nn,nn,nn,nn,nn,nn,nn,nn,nn,nn,nn,nn,nn,nn] S rfl (wanted_off S rfl rfl rfl rfl bc85) rfl rfl (by kernel_rfl) (fun _ _ _ h => h) ?_; clear S a; intro a S
       refine d_off (i := 15) #[yy,yy,yy,yy,yy,yy,yy,yy,yy,yy,yy,yy,yy,yy,yy,yy,nn,nn,nn,nn,nn,nn,nn,nn,nn,nn,nn,nn,nn,nn,nn] S rfl (wanted_off S rfl rfl rfl rfl bc85) rfl rfl (by kernel_rfl) (fun _ _ _ h => h) ?_; clear S a; intro a S
       refine d_off (i := 16) #[yy,yy,yy,yy,yy,yy,yy,yy,yy,yy,yy,yy,yy,yy,yy,yy,yy,nn,nn,nn,nn,nn,nn,nn,nn,nn,nn,nn,nn,nn,nn] S rfl (wanted_off S rfl rfl rfl rfl bc85) rfl rfl (by kernel_rfl) (fun _ _ _ h => h) ?_; clear S a; intro a S
       refine d_off (i := 17) #[yy,yy,yy,yy,yy,yy,yy,yy,yy,yy,yy,yy,yy,yy,yy,yy,yy,yy,nn,nn,nn,nn,nn,nn,nn,nn,nn,nn,nn,nn,nn] S rfl (wanted_off S rfl rfl rfl rfl bc85) rfl rfl (by kernel_rfl) (fun _ _ _ h => h) ?_; clear S a; intro a S
       refine d_pure (i := 18) #[yy,yy,yy,yy,yy,yy,yy,yy,yy,yy,yy,yy,yy,yy,yy,yy,yy,yy,yy,nn,nn,nn,nn,nn,nn,nn,nn,nn,nn,nn,nn] S rfl (p_pick_t rfl bc85 rfl) (wanted_none rfl) rfl rfl (by kernel_rfl) (fun _ _ _ h => h) ?_; clear S a; intro a S
       refine d_pure (i := 19) #[yy,yy,yy,yy,yy,yy,yy,yy,yy,yy,yy,yy,yy,yy,yy,yy,yy,yy,yy,yy,nn,nn,nn,nn,nn,nn,nn,nn,nn,nn,nn] S rfl (p_move rfl) (wanted_none rfl) rfl rfl (by kernel_rfl) (fun _ _ _ h => h) ?_; clear S a; intro a S
       refine d_off (i := 20) #[yy,yy,yy,yy,yy,yy,yy,yy,yy,yy,yy,yy,yy,yy,yy,yy,yy,yy,yy,yy,yy,nn,nn,nn,nn,nn,nn,nn,nn,nn,nn] S rfl (wanted_off S rfl rfl rfl rfl rfl) rfl rfl (by kernel_rfl) (fun _ _ _ h => h) ?_; clear S a; intro a S
       refine d_off (i := 21) #[yy,yy,yy,yy,yy,yy,yy,yy,yy,yy,yy,yy,yy,yy,yy,yy,yy,yy,yy,yy,yy,yy,nn,nn,nn,nn,nn,nn,nn,nn,nn] S rfl (wanted_off S rfl rfl rfl rfl rfl) rfl rfl (by kernel_rfl) (fun _ _ _ h => h) ?_; clear S a; intro a S
       refine d_off (i := 22) #[yy,yy,yy,yy,yy,yy,yy,yy,yy,yy,yy,yy,yy,yy,yy,yy,yy,yy,yy,yy,yy,yy,yy,nn,nn,nn,nn,nn,nn,nn,nn] S rfl (wanted_off S rfl rfl rfl rfl rfl) rfl rfl (by kernel_rfl) (fun _ _ _ h => h) ?_; clear S a; intro a S
       refine d_off (i := 23) #[yy,yy,yy,yy,yy,yy,yy,yy,yy,yy,yy,yy,yy,yy,yy,yy,yy,yy,yy,yy,yy,yy,yy,yy,nn,nn,nn,nn,nn,nn,nn] S rfl (wanted_off S rfl rfl rfl rfl rfl) rfl rfl (by kernel_rfl) (fun _ _ _ h => h) ?_; clear S a; intro a S
       refine d_pure (i := 24) #[yy,yy,yy,yy,yy,yy,yy,yy,yy,yy,yy,yy,yy,yy,yy,yy,yy,yy,yy,yy,yy,yy,yy,yy,yy,nn,nn,nn,nn,nn,nn] S rfl (p_pick_t rfl rfl rfl) (wanted_none rfl) rfl rfl (by kernel_rfl) (fun _ _ _ h => h) ?_; clear S a; intro a S
       refine d_pure (i := 25) #[yy,yy,yy,yy,yy,yy,yy,yy,yy,yy,yy,yy,yy,yy,yy,yy,yy,yy,yy,yy,yy,yy,yy,yy,yy,yy,nn,nn,nn,nn,nn] S rfl (p_move rfl) (wanted_none rfl) rfl rfl (by kernel_rfl) (fun _ _ _ h => h) ?_; clear S a; intro a S
       refine d_off (i := 26) #[yy,yy,yy,yy,yy,yy,yy,yy,yy,yy,yy,yy,yy,yy,yy,yy,yy,yy,yy,yy,yy,yy,yy,yy,yy,yy,yy,nn,nn,nn,nn] S rfl (wanted_off S rfl rfl rfl rfl rfl) rfl rfl (by kernel_rfl) (fun _ _ _ h => h) ?_; clear S a; intro a S
       refine d_off (i := 27) #[yy,yy,yy,yy,yy,yy,yy,yy,yy,yy,yy,yy,yy,yy,yy,yy,yy,yy,yy,yy,yy,yy,yy,yy,yy,yy,yy,yy,nn,nn,nn] S rfl (wanted_off S rfl rfl rfl rfl rfl) rfl rfl (by kernel_rfl) (fun _ _ _ h => h) ?_; clear S a; intro a S
       refine d_off (i := 28) #[yy,yy,yy,yy,yy,yy,yy,yy,yy,yy,yy,yy,yy,yy,yy,yy,yy,yy,yy,yy,yy,yy,yy,yy,yy,yy,yy,yy,yy,nn,nn] S rfl (wanted_off S rfl rfl rfl rfl rfl) rfl rfl (by kernel_rfl) (fun _ _ _ h => h) ?_; clear S a; intro a S
       refine d_off (i := 29) #[yy,yy,yy,yy,yy,yy,yy,yy,yy,yy,yy,yy,yy,yy,yy,yy,yy,yy,yy,yy,yy,yy,yy,yy,yy,yy,yy,yy,yy,yy,nn] S rfl (wanted_off S rfl rfl rfl rfl rfl) rfl rfl (by kernel_rfl) (fun _ _ _ h => h) ?_; clear S a; intro a S
       refine d_pure (i := 30) #[yy,yy,yy,yy,yy,yy,yy,yy,yy,yy,yy,yy,yy,yy,yy,yy,yy,yy,yy,yy,yy,yy,yy,yy,yy,yy,yy,yy,yy,yy,yy] S rfl (p_pick_t rfl rfl rfl) (wanted_none rfl) rfl rfl (by kernel_rfl) (fun _ _ _ h => h) ?_; clear S a; intro a S
       refine d_done (by kernel_rfl) ?_
       refine e_then ?_
       refine c_cond (b := true) S rfl (fun _ => ?_) (fun h => by cases h)
       refine wp_seq ?_
       refine c_region ?_
       refine l_pure S (p_assign rfl) rfl rfl rfl ?_; clear S a; intro a S
       refine l_nil ?_
       refine e_then ?_
       refine wp_ret ?_
       refine e_then_ret ?_
       refine e_in_ret ?_
       refine e_in_ret ?_
       refine e_then_ret ?_
       refine e_in_ret ?_
       refine e_then_ret ?_
       have hbad : up.V s i = false := by
        have e1 : Lib.checkN (s.size - i) (HHW.bt s ((i + 1 : Nat) : Int)).toNat (HHW.bt s ((i + 2 : Nat) : Int)).toNat (HHW.bt s ((i + 3 : Nat) : Int)).toNat (f % 8) (Lib.accLo (f / 16)) (Lib.accHi (f / 16)) = none := by
         unfold Lib.checkN; repeat' split
         all_goals first | rfl | (exfalso; omega)
        rw [hlead, e1]
       exact r_ret1 S rfl rfl ⟨by rw [hV, hbad], H.below⟩
      ·
       have c85 := bc85
       have c85 := of_decide_eq_false c85
       refine d_pure (i := 12) #[yy,yy,yy,yy,yy,yy,yy,yy,yy,yy,yy,yy,yy,nn,nn,nn,nn,nn,nn,nn,nn,nn,nn,nn,nn,nn,nn,nn,nn,nn,nn] S rfl (p_fieldAddr rfl (fun w => fa83_1 w _ _)) (wanted_on S rfl rfl rfl rfl bc85) rfl rfl (by kernel_rfl) (fun _ _ _ h => h) ?_; clear S a; intro a S
       refine d_read (i := 13) #[yy,yy,yy,yy,yy,yy,yy,yy,yy,yy,yy,yy,yy,yy,nn,nn,nn,nn,nn,nn,nn,nn,nn,nn,nn,nn,nn,nn,nn,nn,nn] S H rfl (r_load rfl List.mem_cons_self rfl (fun w hc => ld1 ag5 hc)) (wanted_on S rfl rfl rfl rfl bc85) rfl rfl (by kernel_rfl) (fun _ _ _ h => h) ?_; clear S a; intro a S
       refine d_pure (i := 14) #[yy,yy,yy,yy,yy,yy,yy,yy,yy,yy,yy,yy,yy,yy,yy,nn,nn,nn,nn,nn,nn,nn,nn,nn,nn,nn,nn,nn,nn,nn,nn] S rfl (p_move rfl) (wanted_on S rfl rfl rfl rfl bc85) rfl rfl (by kernel_rfl) (fun _ _ _ h => h) ?_; clear S a; intro a S
       refine d_pure (i := 15) #[yy,yy,yy,yy,yy,yy,yy,yy,yy,yy,yy,yy,yy,yy,yy,yy,nn,nn,nn,nn,nn,nn,nn,nn,nn,nn,nn,nn,nn,nn,nn] S rfl (p_indexAddr rfl rfl (fun w => ia_slice Tryd.underlying32 sz5 (by omega) (by omega))) (wanted_on S rfl rfl rfl rfl bc85) rfl rfl (by kernel_rfl) (fun _ _ _ h => h) ?_; clear S a; intro a S
       refine d_read (i := 16) #[yy,yy,yy,yy,yy,yy,yy,yy,yy,yy,yy,yy,yy,yy,yy,yy,yy,nn,nn,nn,nn,nn,nn,nn,nn,nn,nn,nn,nn,nn,nn] S H rfl (r_byte (l := ((ints s).drop i)) (i := 1) (v := HHW.bt s ((i + 1 : Nat) : Int)) rfl (by omega) ag5 hRo4 rfl (int_at s rfl (by omega))) (wanted_on S rfl rfl rfl rfl bc85) rfl rfl (by kernel_rfl) (fun _ _ _ h => h) ?_; clear S a; intro a S
       refine d_pure (i := 17) #[yy,yy,yy,yy,yy,yy,yy,yy,yy,yy,yy,yy,yy,yy,yy,yy,yy,yy,nn,nn,nn,nn,nn,nn,nn,nn,nn,nn,nn,nn,nn] S rfl (p_lss rfl rfl) (wanted_on S rfl rfl rfl rfl bc85) rfl rfl (by kernel_rfl) (fun _ _ _ h => h) ?_; clear S a; intro a S
       refine d_pure (i := 18) #[yy,yy,yy,yy,yy,yy,yy,yy,yy,yy,yy,yy,yy,yy,yy,yy,yy,yy,yy,nn,nn,nn,nn,nn,nn,nn,nn,nn,nn,nn,nn] S rfl (p_pick_f rfl bc85 rfl) (wanted_none rfl) rfl rfl (by kernel_rfl) (fun _ _ _ h => h) ?_; clear S a; intro a S
       refine d_pure (i := 19) #[yy,yy,yy,yy,yy,yy,yy,yy,yy,yy,yy,yy,yy,yy,yy,yy,yy,yy,yy,yy,nn,nn,nn,nn,nn,nn,nn,nn,nn,nn,nn] S rfl (p_move rfl) (wanted_none rfl) rfl rfl (by kernel_rfl) (fun _ _ _ h => h) ?_; clear S a; intro a S
       refine d_split (S.of 127 rfl) (fun bc92 => ?_) (fun bc92 => ?_)
       ·
        have c92 := bc92
        have c92 := of_decide_eq_true c92
        refine d_off (i := 20) #[yy,yy,yy,yy,yy,yy,yy,yy,yy,yy,yy,yy,yy,yy,yy,yy,yy,yy,yy,yy,yy,nn,nn,nn,nn,nn,nn,nn,nn,nn,nn] S rfl (wanted_off S rfl rfl rfl rfl bc92) rfl rfl (by kernel_rfl) (fun _ _ _ h => h) ?_; clear S a; intro a S
        refine d_off (i := 21) #[yy,yy,yy,yy,yy,yy,yy,yy,yy,yy,yy,yy,yy,yy,yy,yy,yy,yy,yy,yy,yy,yy,nn,nn,nn,nn,nn,nn,nn,nn,nn] S rfl (wanted_off S rfl rfl rfl rfl bc92) rfl rfl (by kernel_rfl) (fun _ _ _ h => h) ?_; clear S a; intro a S
        refine d_off (i := 22) #[yy,yy,yy,yy,yy,yy,yy,yy,yy,yy,yy,yy,yy,yy,yy,yy,yy,yy,yy,yy,yy,yy,yy,nn,nn,nn,nn,nn,nn,nn,nn] S rfl (wanted_off S rfl rfl rfl rfl bc92) rfl rfl (by kernel_rfl) (fun _ _ _ h => h) ?_; clear S a; intro a S
        refine d_off (i := 23) #[yy,yy,yy,yy,yy,yy,yy,yy,yy,yy,yy,yy,yy,yy,yy,yy,yy,yy,yy,yy,yy,yy,yy,yy,nn,nn,nn,nn,nn,nn,nn] S rfl (wanted_off S rfl rfl rfl rfl bc92) rfl rfl (by kernel_rfl) (fun _ _ _ h => h) ?_; clear S a; intro a S
        refine d_pure (i := 24) #[yy,yy,yy,yy,yy,yy,yy,yy,yy,yy,yy,yy,yy,yy,yy,yy,yy,yy,yy,yy,yy,yy,yy,yy,yy,nn,nn,nn,nn,nn,nn] S rfl (p_pick_t rfl bc92 rfl) (wanted_none rfl) rfl rfl (by kernel_rfl) (fun _ _ _ h => h) ?_; clear S a; intro a S
        refine d_pure (i := 25) #[yy,yy,yy,yy,yy,yy,yy,yy,yy,yy,yy,yy,yy,yy,yy,yy,yy,yy,yy,yy,yy,yy,yy,yy,yy,yy,nn,nn,nn,nn,nn] S rfl (p_move rfl) (wanted_none rfl) rfl rfl (by kernel_rfl) (fun _ _ _ h => h) ?_; clear S a; intro a S
        refine d_off (i := 26) #[yy,yy,yy,yy,yy,yy,yy,yy,yy,yy,yy,yy,yy,yy,yy,yy,yy,yy,yy,yy,yy,yy,yy,yy,yy,yy,yy,nn,nn,nn,nn] S rfl (wanted_off S rfl rfl rfl rfl rfl) rfl rfl (by kernel_rfl) (fun _ _ _ h => h) ?_; clear S a; intro a S
        refine d_off (i := 27) #[yy,yy,yy,yy,yy,yy,yy,yy,yy,yy,yy,yy,yy,yy,yy,yy,yy,yy,yy,yy,yy,yy,yy,yy,yy,yy,yy,yy,nn,nn,nn] S rfl (wanted_off S rfl rfl rfl rfl rfl) rfl rfl (by kernel_rfl) (fun _ _ _ h => h) ?_; clear S a; intro a S
        refine d_off (i := 28) #[yy,yy,yy,yy,yy,yy,yy,yy,yy,yy,yy,yy,yy,yy,yy,yy,yy,yy,yy,yy,yy,yy,yy,yy,yy,yy,yy,yy,yy,nn,nn] S rfl (wanted_off S rfl rfl rfl rfl rfl) rfl rfl (by kernel_rfl) (fun _ _ _ h => h) ?_; clear S a; intro a S
        refine d_off (i := 29) #[yy,yy,yy,yy,yy,yy,yy,yy,yy,yy,yy,yy,yy,yy,yy,yy,yy,yy,yy,yy,yy,yy,yy,yy,yy,yy,yy,yy,yy,yy,nn] S rfl (wanted_off S rfl rfl rfl rfl rfl) rfl rfl (by kernel_rfl) (fun _ _ _ h => h) ?_; clear S a; intro a S
        refine d_pure (i := 30) #[yy,yy,yy,yy,yy,yy,yy,yy,yy,yy,yy,yy,yy,yy,yy,yy,yy,yy,yy,yy,yy,yy,yy,yy,yy,yy,yy,yy,yy,yy,yy] S rfl (p_pick_t rfl rfl rfl) (wanted_none rfl) rfl rfl (by kernel_rfl) (fun _ _ _ h => h) ?_; clear S a; intro a S
        refine d_done (by kernel_rfl) ?_
        refine e_then ?_
        refine c_cond (b := true) S rfl (fun _ => ?_) (fun h => by cases h)
        refine wp_seq ?_
        refine c_region ?_
        refine l_pure S (p_assign rfl) rfl rfl rfl ?_; clear S a; intro a S
        refine l_nil ?_
        refine e_then ?_
        refine wp_ret ?_
        refine e_then_ret ?_
        refine e_in_ret ?_
        refine e_in_ret ?_
        refine e_then_ret ?_
        refine e_in_ret ?_
        refine e_then_ret ?_
        have hbad : up.V s i = false := by
         have e1 : Lib.checkN (s.size - i) (HHW.bt s ((i + 1 : Nat) : Int)).toNat (HHW.bt s ((i + 2 : Nat) : Int)).toNat (HHW.bt s ((i + 3 : Nat) : Int)).toNat (f % 8) (Lib.accLo (f / 16)) (Lib.accHi (f / 16)) = none := by
          unfold Lib.checkN; repeat' split
          all_goals first | rfl | (exfalso; omega)
         rw [hlead, e1]
        exact r_ret1 S rfl rfl ⟨by rw [hV, hbad], H.below⟩
       ·
        have c92 := bc92
        have c92 := of_decide_eq_false c92
        refine d_pure (i := 20) #[yy,yy,yy,yy,yy,yy,yy,yy,yy,yy,yy,yy,yy,yy,yy,yy,yy,yy,yy,yy,yy,nn,nn,nn,nn,nn,nn,nn,nn,nn,nn] S rfl (p_move rfl) (wanted_on S rfl rfl rfl rfl bc92) rfl rfl (by kernel_rfl) (fun _ _ _ h => h) ?_; clear S a; intro a S
        refine d_pure (i := 21) #[yy,yy,yy,yy,yy,yy,yy,yy,yy,yy,yy,yy,yy,yy,yy,yy,yy,yy,yy,yy,yy,yy,nn,nn,nn,nn,nn,nn,nn,nn,nn] S rfl (p_indexAddr rfl rfl (fun w => ia_slice Tryd.underlying32 sz5 (by omega) (by omega))) (wanted_on S rfl rfl rfl rfl bc92) rfl rfl (by kernel_rfl) (fun _ _ _ h => h) ?_; clear S a; intro a S
        refine d_read (i := 22) #[yy,yy,yy,yy,yy,yy,yy,yy,yy,yy,yy,yy,yy,yy,yy,yy,yy,yy,yy,yy,yy,yy,yy,nn,nn,nn,nn,nn,nn,nn,nn] S H rfl (r_byte (l := ((ints s).drop i)) (i := 2) (v := HHW.bt s ((i + 2 : Nat) : Int)) rfl (by omega) ag5 hRo4 rfl (int_at s rfl (by omega))) (wanted_on S rfl rfl rfl rfl bc92) rfl rfl (by kernel_rfl) (fun _ _ _ h => h) ?_; clear S a; intro a S
        refine d_pure (i := 23) #[yy,yy,yy,yy,yy,yy,yy,yy,yy,yy,yy,yy,yy,yy,yy,yy,yy,yy,yy,yy,yy,yy,yy,yy,nn,nn,nn,nn,nn,nn,nn] S rfl (p_lss rfl rfl) (wanted_on S rfl rfl rfl rfl bc92) rfl rfl (by kernel_rfl) (fun _ _ _ h => h) ?_; clear S a; intro a S
        refine d_pure (i := 24) #[yy,yy,yy,yy,yy,yy,yy,yy,yy,yy,yy,yy,yy,yy,yy,yy,yy,yy,yy,yy,yy,yy,yy,yy,yy,nn,nn,nn,nn,nn,nn] S rfl (p_pick_f rfl bc92 rfl) (wanted_none rfl) rfl rfl (by kernel_rfl) (fun _ _ _ h => h) ?_; clear S a; intro a S
        refine d_pure (i := 25) #[yy,yy,yy,yy,yy,yy,yy,yy,yy,yy,yy,yy,yy,yy,yy,yy,yy,yy,yy,yy,yy,yy,yy,yy,yy,yy,nn,nn,nn,nn,nn] S rfl (p_move rfl) (wanted_none rfl) rfl rfl (by kernel_rfl) (fun _ _ _ h => h) ?_; clear S a; intro a S
        refine d_split (S.of 133 rfl) (fun bc98 => ?_) (fun bc98 => ?_)
        ·
         have c98 := bc98
         have c98 := of_decide_eq_true c98
         refine d_off (i := 26) #[yy,yy,yy,yy,yy,yy,yy,yy,yy,yy,yy,yy,yy,yy,yy,yy,yy,yy,yy,yy,yy,yy,yy,yy,yy,yy,yy,nn,nn,nn,nn] S rfl (wanted_off S rfl rfl rfl rfl bc98) rfl rfl (by kernel_rfl) (fun _ _ _ h => h) ?_; clear S a; intro a S
         refine d_off (i := 27) #[yy,yy,yy,yy,yy,yy,yy,yy,yy,yy,yy,yy,yy,yy,yy,yy,yy,yy,yy,yy,yy,yy,yy,yy,yy,yy,yy,yy,nn,nn,nn] S rfl (wanted_off S rfl rfl rfl rfl bc98) rfl rfl (by kernel_rfl) (fun _ _ _ h => h) ?_; clear S a; intro a S
         refine d_off (i := 28) #[yy,yy,yy,yy,yy,yy,yy,yy,yy,yy,yy,yy,yy,yy,yy,yy,yy,yy,yy,yy,yy,yy,yy,yy,yy,yy,yy,yy,yy,nn,nn] S rfl (wanted_off S rfl rfl rfl rfl bc98) rfl rfl (by kernel_rfl) (fun _ _ _ h => h) ?_; clear S a; intro a S
         refine d_off (i := 29) #[yy,yy,yy,yy,yy,yy,yy,yy,yy,yy,yy,yy,yy,yy,yy,yy,yy,yy,yy,yy,yy,yy,yy,yy,yy,yy,yy,yy,yy,yy,nn] S rfl (wanted_off S rfl rfl rfl rfl bc98) rfl rfl (by kernel_rfl) (fun _ _ _ h => h) ?_; clear S a; intro a S
         refine d_pure (i := 30) #[yy,yy,yy,yy,yy,yy,yy,yy,yy,yy,yy,yy,yy,yy,yy,yy,yy,yy,yy,yy,yy,yy,yy,yy,yy,yy,yy,yy,yy,yy,yy] S rfl (p_pick_t rfl bc98 rfl) (wanted_none rfl) rfl rfl (by kernel_rfl) (fun _ _ _ h => h) ?_; clear S a; intro a S
         refine d_done (by kernel_rfl) ?_
         refine e_then ?_
         refine c_cond (b := true) S rfl (fun _ => ?_) (fun h => by cases h)
         refine wp_seq ?_
         refine c_region ?_
         refine l_pure S (p_assign rfl) rfl rfl rfl ?_; clear S a; intro a S
         refine l_nil ?_
         refine e_then ?_
         refine wp_ret ?_
         refine e_then_ret ?_
         refine e_in_ret ?_
         refine e_in_ret ?_
         refine e_then_ret ?_
         refine e_in_ret ?_
         refine e_then_ret ?_
         have hbad : up.V s i = false := by
          have e1 : Lib.checkN (s.size - i) (HHW.bt s ((i + 1 : Nat) : Int)).toNat (HHW.bt s ((i + 2 : Nat) : Int)).toNat (HHW.bt s ((i + 3 : Nat) : Int)).toNat (f % 8) (Lib.accLo (f / 16)) (Lib.accHi (f / 16)) = none := by
           unfold Lib.checkN; repeat' split
           all_goals first | rfl | (exfalso; omega)
          rw [hlead, e1]
         exact r_ret1 S rfl rfl ⟨by rw [hV, hbad], H.below⟩
        ·
         have c98 := bc98
         have c98 := of_decide_eq_false c98
         refine d_pure (i := 26) #[yy,yy,yy,yy,yy,yy,yy,yy,yy,yy,yy,yy,yy,yy,yy,yy,yy,yy,yy,yy,yy,yy,yy,yy,yy,yy,yy,nn,nn,nn,nn] S rfl (p_move rfl) (wanted_on S rfl rfl rfl rfl bc98) rfl rfl (by kernel_rfl) (fun _ _ _ h => h) ?_; clear S a; intro a S
         refine d_pure (i := 27) #[yy,yy,yy,yy,yy,yy,yy,yy,yy,yy,yy,yy,yy,yy,yy,yy,yy,yy,yy,yy,yy,yy,yy,yy,yy,yy,yy,yy,nn,nn,nn] S rfl (p_indexAddr rfl rfl (fun w => ia_slice Tryd.underlying32 sz5 (by omega) (by omega))) (wanted_on S rfl rfl rfl rfl bc98) rfl rfl (by kernel_rfl) (fun _ _ _ h => h) ?_; clear S a; intro a S
         refine d_read (i := 28) #[yy,yy,yy,yy,yy,yy,yy,yy,yy,yy,yy,yy,yy,yy,yy,yy,yy,yy,yy,yy,yy,yy,yy,yy,yy,yy,yy,yy,yy,nn,nn] S H rfl (r_byte (l := ((ints s).drop i)) (i := 2) (v := HHW.bt s ((i + 2 : Nat) : Int)) rfl (by omega) ag5 hRo4 rfl (int_at s rfl (by omega))) (wanted_on S rfl rfl rfl rfl bc98) rfl rfl (by kernel_rfl) (fun _ _ _ h => h) ?_; clear S a; intro a S
         refine d_pure (i := 29) #[yy,yy,yy,yy,yy,yy,yy,yy,yy,yy,yy,yy,yy,yy,yy,yy,yy,yy,yy,yy,yy,yy,yy,yy,yy,yy,yy,yy,yy,yy,nn] S rfl (p_lss rfl rfl) (wanted_on S rfl rfl rfl rfl bc98) rfl rfl (by kernel_rfl) (fun _ _ _ h => h) ?_; clear S a; intro a S
         refine d_pure (i := 30) #[yy,yy,yy,yy,yy,yy,yy,yy,yy,yy,yy,yy,yy,yy,yy,yy,yy,yy,yy,yy,yy,yy,yy,yy,yy,yy,yy,yy,yy,yy,yy] S rfl (p_pick_f rfl bc98 rfl) (wanted_none rfl) rfl rfl (by kernel_rfl) (fun _ _ _ h => h) ?_; clear S a; intro a S
         refine d_done (by kernel_rfl) ?_
         refine e_then ?_
         refine c_cond S rfl (fun bc103 => ?_) (fun bc103 => ?_)
         ·
          have c103 := bc103
          have c103 := of_decide_eq_true c103
          refine wp_seq ?_
          refine c_region ?_
          refine l_pure S (p_assign rfl) rfl rfl rfl ?_; clear S a; intro a S
          refine l_nil ?_
          refine e_then ?_
          refine wp_ret ?_
          refine e_then_ret ?_
          refine e_in_ret ?_
          refine e_in_ret ?_
          refine e_then_ret ?_
          refine e_in_ret ?_
          refine e_then_ret ?_
          have hbad : up.V s i = false := by
           have e1 : Lib.checkN (s.size - i) (HHW.bt s ((i + 1 : Nat) : Int)).toNat (HHW.bt s ((i + 2 : Nat) : Int)).toNat (HHW.bt s ((i + 3 : Nat) : Int)).toNat (f % 8) (Lib.accLo (f / 16)) (Lib.accHi (f / 16)) = none := by
            unfold Lib.checkN; repeat' split
            all_goals first | rfl | (exfalso; omega)
           rw [hlead, e1]
          exact r_ret1 S rfl rfl ⟨by rw [hV, hbad], H.below⟩
         ·
          have c103 := bc103
          have c103 := of_decide_eq_false c103
          refine wp_skip ?_
          refine e_then ?_
          refine c_region ?_
          refine l_pure S (p_move rfl) rfl rfl rfl ?_; clear S a; intro a S
          have hVk : up.V s 0 = up.V s (i + 3) := hV.trans (hlead.trans (by unfold Lib.checkN; simp only [show f % 8 = 3 by omega, if_true, if_false, Nat.reduceEqDiff]; rw [if_neg (by omega)]))
          have hsb105 := hq.drop (m := 3) (by omega)
          refine l_pure S (p_slice rfl (o_some rfl) (fun _ _ => o_none) (fun _ _ => o_none) (fun w => sl_sb_lo (m := 3) Tryd.underlying32 sz5 rfl (by omega))) rfl rfl rfl ?_; clear S a; intro a S
          rw [List.drop_drop] at S hsb105
          revert S; revert hsb105
          generalize cutAt _ _ 3 1 = Ab105
          generalize _ - 3 = cb105
          intro hsb105 S
          have hln106 : ((ints s).drop (i + 3)).length = s.size - (i + 3) := by rw [List.length_drop, ints_len]
          refine l_pure S (p_assign rfl) rfl rfl rfl ?_; clear S a; intro a S
          refine l_nil ?_
          refine e_in 4 ?_
          refine e_in 1 ?_
          refine e_then ?_
          exact ⟨⟨(i + 3), _, _⟩, ⟨S.only ⟨rfl, trivial⟩, H.tail, ⟨by omega, hVk, hsb105⟩⟩, (show s.size - (i + 3) < s.size - i from by omega)⟩
    ·
     have c75 := bc75
     have c75 := ne_of_beq_false c75
     refine wp_seq ?_
     refine c_region ?_
     refine l_pure S (p_eql rfl rfl) rfl rfl rfl ?_; clear S a; intro a S
     refine l_pure S (p_assign rfl) rfl rfl rfl ?_; clear S a; intro a S
     refine l_nil ?_
     refine e_then ?_
     refine c_cond S rfl (fun bc108 => ?_) (fun bc108 => ?_)
     ·
      have c108 := bc108
      have c108 := eq_of_beq c108
      refine wp_seq ?_
      refine wp_seq ?_
      refine d_start (id := 26) [] 43 #[nn,nn,nn,nn,nn,nn,nn,nn,nn,nn,nn,nn,nn,nn,nn,nn,nn,nn,nn,nn,nn,nn,nn,nn,nn,nn,nn,nn,nn,nn,nn,nn,nn,nn,nn,nn,nn,nn,nn,nn,nn,nn,nn] H rfl rfl rfl (fun w H => ?_)
      refine d_pure (i := 0) #[yy,nn,nn,nn,nn,nn,nn,nn,nn,nn,nn,nn,nn,nn,nn,nn,nn,nn,nn,nn,nn,nn,nn,nn,nn,nn,nn,nn,nn,nn,nn,nn,nn,nn,nn,nn,nn,nn,nn,nn,nn,nn,nn] S rfl (p_move rfl) (wanted_none rfl) rfl rfl (by kernel_rfl) (fun _ _ _ h => h) ?_; clear S a; intro a S
      refine d_pure (i := 1) #[yy,yy,nn,nn,nn,nn,nn,nn,nn,nn,nn,nn,nn,nn,nn,nn,nn,nn,nn,nn,nn,nn,nn,nn,nn,nn,nn,nn,nn,nn,nn,nn,nn,nn,nn,nn,nn,nn,nn,nn,nn,nn,nn] S rfl (p_len Tryd.underlying32 rfl) (wanted_none rfl) rfl rfl (by kernel_rfl) (fun _ _ _ h => h) ?_; clear S a; intro a S
      refine d_pure (i := 2) #[yy,yy,yy,nn,nn,nn,nn,nn,nn,nn,nn,nn,nn,nn,nn,nn,nn,nn,nn,nn,nn,nn,nn,nn,nn,nn,nn,nn,nn,nn,nn,nn,nn,nn,nn,nn,nn,nn,nn,nn,nn,nn,nn] S rfl (p_lss rfl rfl) (wanted_none rfl) rfl rfl (by kernel_rfl) (fun _ _ _ h => h) ?_; clear S a; intro a S
      refine d_pure (i := 3) #[yy,yy,yy,yy,nn,nn,nn,nn,nn,nn,nn,nn,nn,nn,nn,nn,nn,nn,nn,nn,nn,nn,nn,nn,nn,nn,nn,nn,nn,nn,nn,nn,nn,nn,nn,nn,nn,nn,nn,nn,nn,nn,nn] S rfl (p_move rfl) (wanted_none rfl) rfl rfl (by kernel_rfl) (fun _ _ _ h => h) ?_; clear S a; intro a S
      refine d_split (S.of 146 rfl) (fun bc110 => ?_) (fun bc110 => ?_)
      ·
       have c110 := bc110
       have c110 := of_decide_eq_true c110
       refine d_off (i := 4) #[yy,yy,yy,yy,yy,nn,nn,nn,nn,nn,nn,nn,nn,nn,nn,nn,nn,nn,nn,nn,nn,nn,nn,nn,nn,nn,nn,nn,nn,nn,nn,nn,nn,nn,nn,nn,nn,nn,nn,nn,nn,nn,nn] S rfl (wanted_off S rfl rfl rfl rfl bc110) rfl rfl (by kernel_rfl) (fun _ _ _ h => h) ?_; clear S a; intro a S
       refine d_off (i := 5) #[yy,yy,yy,yy,yy,yy,nn,nn,nn,nn,nn,nn,nn,nn,nn,nn,nn,nn,nn,nn,nn,nn,nn,nn,nn,nn,nn,nn,nn,nn,nn,nn,nn,nn,nn,nn,nn,nn,nn,nn,nn,nn,nn] S rfl (wanted_off S rfl rfl rfl rfl bc110) rfl rfl (by kernel_rfl) (fun _ _ _ h => h) ?_; clear S a; intro a S
       refine d_off (i := 6) #[yy,yy,yy,yy,yy,yy,yy,nn,nn,nn,nn,nn,nn,nn,nn,nn,nn,nn,nn,nn,nn,nn,nn,nn,nn,nn,nn,nn,nn,nn,nn,nn,nn,nn,nn,nn,nn,nn,nn,nn,nn,nn,nn] S rfl (wanted_off S rfl rfl rfl rfl bc110) rfl rfl (by kernel_rfl) (fun _ _ _ h => h) ?_; clear S a; intro a S
       refine d_off (i := 7) #[yy,yy,yy,yy,yy,yy,yy,yy,nn,nn,nn,nn,nn,nn,nn,nn,nn,nn,nn,nn,nn,nn,nn,nn,nn,nn,nn,nn,nn,nn,nn,nn,nn,nn,nn,nn,nn,nn,nn,nn,nn,nn,nn] S rfl (wanted_off S rfl rfl rfl rfl bc110) rfl rfl (by kernel_rfl) (fun _ _ _ h => h) ?_; clear S a; intro a S
       refine d_off (i := 8) #[yy,yy,yy,yy,yy,yy,yy,yy,yy,nn,nn,nn,nn,nn,nn,nn,nn,nn,nn,nn,nn,nn,nn,nn,nn,nn,nn,nn,nn,nn,nn,nn,nn,nn,nn,nn,nn,nn,nn,nn,nn,nn,nn] S rfl (wanted_off S rfl rfl rfl rfl bc110) rfl rfl (by kernel_rfl) (fun _ _ _ h => h) ?_; clear S a; intro a S
       refine d_off (i := 9) #[yy,yy,yy,yy,yy,yy,yy,yy,yy,yy,nn,nn,nn,nn,nn,nn,nn,nn,nn,nn,nn,nn,nn,nn,nn,nn,nn,nn,nn,nn,nn,nn,nn,nn,nn,nn,nn,nn,nn,nn,nn,nn,nn] S rfl (wanted_off S rfl rfl rfl rfl bc110) rfl rfl (by kernel_rfl) (fun _ _ _ h => h) ?_; clear S a; intro a S
       refine d_pure (i := 10) #[yy,yy,yy,yy,yy,yy,yy,yy,yy,yy,yy,nn,nn,nn,nn,nn,nn,nn,nn,nn,nn,nn,nn,nn,nn,nn,nn,nn,nn,nn,nn,nn,nn,nn,nn,nn,nn,nn,nn,nn,nn,nn,nn] S rfl (p_pick_t rfl bc110 rfl) (wanted_none rfl) rfl rfl (by kernel_rfl) (fun _ _ _ h => h) ?_; clear S a; intro a S
       refine d_pure (i := 11) #[yy,yy,yy,yy,yy,yy,yy,yy,yy,yy,yy,yy,nn,nn,nn,nn,nn,nn,nn,nn,nn,nn,nn,nn,nn,nn,nn,nn,nn,nn,nn,nn,nn,nn,nn,nn,nn,nn,nn,nn,nn,nn,nn] S rfl (p_move rfl) (wanted_none rfl) rfl rfl (by kernel_rfl) (fun _ _ _ h => h) ?_; clear S a; intro a S
       refine d_off (i := 12) #[yy,yy,yy,yy,yy,yy,yy,yy,yy,yy,yy,yy,yy,nn,nn,nn,nn,nn,nn,nn,nn,nn,nn,nn,nn,nn,nn,nn,nn,nn,nn,nn,nn,nn,nn,nn,nn,nn,nn,nn,nn,nn,nn] S rfl (wanted_off S rfl rfl rfl rfl rfl) rfl rfl (by kernel_rfl) (fun _ _ _ h => h) ?_; clear S a; intro a S
       refine d_off (i := 13) #[yy,yy,yy,yy,yy,yy,yy,yy,yy,yy,yy,yy,yy,yy,nn,nn,nn,nn,nn,nn,nn,nn,nn,nn,nn,nn,nn,nn,nn,nn,nn,nn,nn,nn,nn,nn,nn,nn,nn,nn,nn,nn,nn] S rfl (wanted_off S rfl rfl rfl rfl rfl) rfl rfl (by kernel_rfl) (fun _ _ _ h => h) ?_; clear S a; intro a S
       refine d_off (i := 14) #[yy,yy,yy,yy,yy,yy,yy,yy,yy,yy,yy,yy,yy,yy,yy,nn,nn,nn,nn,nn,nn,nn,nn,nn,nn,nn,nn,nn,nn,nn,nn,nn,nn,nn,nn,nn,nn,nn,nn,nn,nn,nn,nn] S rfl (wanted_off S rfl rfl rfl rfl rfl) rfl rfl (by kernel_rfl) (fun _ _ _ h => h) ?_; clear S a; intro a S
       refine d_off (i := 15) #[yy,yy,yy,yy,yy,yy,yy,yy,yy,yy,yy,yy,yy,yy,yy,yy,nn,nn,nn,nn,nn,nn,nn,nn,nn,nn,nn,nn,nn,nn,nn,nn,nn,nn,nn,nn,nn,nn,nn,nn,nn,nn,nn] S rfl (wanted_off S rfl rfl rfl rfl rfl) rfl rfl (by kernel_rfl) (fun _ _ _ h => h) ?_; clear S a; intro a S
       refine d_off (i := 16) #[yy,yy,yy,yy,yy,yy,yy,yy,yy,yy,yy,yy,yy,yy,yy,yy,yy,nn,nn,nn,nn,nn,nn,nn,nn,nn,nn,nn,nn,nn,nn,nn,nn,nn,nn,nn,nn,nn,nn,nn,nn,nn,nn] S rfl (wanted_off S rfl rfl rfl rfl rfl) rfl rfl (by kernel_rfl) (fun _ _ _ h => h) ?_; clear S a; intro a S
       refine d_off (i := 17) #[yy,yy,yy,yy,yy,yy,yy,yy,yy,yy,yy,yy,yy,yy,yy,yy,yy,yy,nn,nn,nn,nn,nn,nn,nn,nn,nn,nn,nn,nn,nn,nn,nn,nn,nn,nn,nn,nn,nn,nn,nn,nn,nn] S rfl (wanted_off S rfl rfl rfl rfl rfl) rfl rfl (by kernel_rfl) (fun _ _ _ h => h) ?_; clear S a; intro a S
       refine d_pure (i := 18) #[yy,yy,yy,yy,yy,yy,yy,yy,yy,yy,yy,yy,yy,yy,yy,yy,yy,yy,yy,nn,nn,nn,nn,nn,nn,nn,nn,nn,nn,nn,nn,nn,nn,nn,nn,nn,nn,nn,nn,nn,nn,nn,nn] S rfl (p_pick_t rfl rfl rfl) (wanted_none rfl) rfl rfl (by kernel_rfl) (fun _ _ _ h => h) ?_; clear S a; intro a S
       refine d_pure (i := 19) #[yy,yy,yy,yy,yy,yy,yy,yy,yy,yy,yy,yy,yy,yy,yy,yy,yy,yy,yy,yy,nn,nn,nn,nn,nn,nn,nn,nn,nn,nn,nn,nn,nn,nn,nn,nn,nn,nn,nn,nn,nn,nn,nn] S rfl (p_move rfl) (wanted_none rfl) rfl rfl (by kernel_rfl) (fun _ _ _ h => h) ?_; clear S a; intro a S
       refine d_off (i := 20) #[yy,yy,yy,yy,yy,yy,yy,yy,yy,yy,yy,yy,yy,yy,yy,yy,yy,yy,yy,yy,yy,nn,nn,nn,nn,nn,nn,nn,nn,nn,nn,nn,nn,nn,nn,nn,nn,nn,nn,nn,nn,nn,nn] S rfl (wanted_off S rfl rfl rfl rfl rfl) rfl rfl (by kernel_rfl) (fun _ _ _ h => h) ?_; clear S a; intro a S
       refine d_off (i := 21) #[yy,yy,yy,yy,yy,yy,yy,yy,yy,yy,yy,yy,yy,yy,yy,yy,yy,yy,yy,yy,yy,yy,nn,nn,nn,nn,nn,nn,nn,nn,nn,nn,nn,nn,nn,nn,nn,nn,nn,nn,nn,nn,nn] S rfl (wanted_off S rfl rfl rfl rfl rfl) rfl rfl (by kernel_rfl) (fun _ _ _ h => h) ?_; clear S a; intro a S
       refine d_off (i := 22) #[yy,yy,yy,yy,yy,yy,yy,yy,yy,yy,yy,yy,yy,yy,yy,yy,yy,yy,yy,yy,yy,yy,yy,nn,nn,nn,nn,nn,nn,nn,nn,nn,nn,nn,nn,nn,nn,nn,nn,nn,nn,nn,nn] S rfl (wanted_off S rfl rfl rfl rfl rfl) rfl rfl (by kernel_rfl) (fun _ _ _ h => h) ?_; clear S a; intro a S
       refine d_off (i := 23) #[yy,yy,yy,yy,yy,yy,yy,yy,yy,yy,yy,yy,yy,yy,yy,yy,yy,yy,yy,yy,yy,yy,yy,yy,nn,nn,nn,nn,nn,nn,nn,nn,nn,nn,nn,nn,nn,nn,nn,nn,nn,nn,nn] S rfl (wanted_off S rfl rfl rfl rfl rfl) rfl rfl (by kernel_rfl) (fun _ _ _ h => h) ?_; clear S a; intro a S
       refine d_pure (i := 24) #[yy,yy,yy,yy,yy,yy,yy,yy,yy,yy,yy,yy,yy,yy,yy,yy,yy,yy,yy,yy,yy,yy,yy,yy,yy,nn,nn,nn,nn,nn,nn,nn,nn,nn,nn,nn,nn,nn,nn,nn,nn,nn,nn] S rfl (p_pick_t rfl rfl rfl) (wanted_none rfl) rfl rfl (by kernel_rfl) (fun _ _ _ h => h) ?_; clear S a; intro a S
       refine d_pure (i := 25) #[yy,yy,yy,yy,yy,yy,yy,yy,yy,yy,yy,yy,yy,yy,yy,yy,yy,yy,yy,yy,yy,yy,yy,yy,yy,yy,nn,nn,nn,nn,nn,nn,nn,nn,nn,nn,nn,nn,nn,nn,nn,nn,nn] S rfl (p_move rfl) (wanted_none rfl) rfl rfl (by kernel_rfl) (fun _ _ _ h => h) ?_; clear S a; intro a S
       refine d_off (i := 26) #[yy,yy,yy,yy,yy,yy,yy,yy,yy,yy,yy,yy,yy,yy,yy,yy,yy,yy,yy,yy,yy,yy,yy,yy,yy,yy,yy,nn,nn,nn,nn,nn,nn,nn,nn,nn,nn,nn,nn,nn,nn,nn,nn] S rfl (wanted_off S rfl rfl rfl rfl rfl) rfl rfl (by kernel_rfl) (fun _ _ _ h => h) ?_; clear S a; intro a S
       refine d_off (i := 27) #[yy,yy,yy,yy,yy,yy,yy,yy,yy,yy,yy,yy,yy,yy,yy,yy,yy,yy,yy,yy,yy,yy,yy,yy,yy,yy,yy,yy,nn,nn,nn,nn,nn,nn,nn,nn,nn,nn,nn,nn,nn,nn,nn] S rfl (wanted_off S rfl rfl rfl rfl rfl) rfl rfl (by kernel_rfl) (fun _ _ _ h => h) ?_; clear S a; intro a S
       refine d_off (i := 28) #[yy,yy,yy,yy,yy,yy,yy,yy,yy,yy,yy,yy,yy,yy,yy,yy,yy,yy,yy,yy,yy,yy,yy,yy,yy,yy,yy,yy,yy,nn,nn,nn,nn,nn,nn,nn,nn,nn,nn,nn,nn,nn,nn] S rfl (wanted_off S rfl rfl rfl rfl rfl) rfl rfl (by kernel_rfl) (fun _ _ _ h => h) ?_; clear S a; intro a S
       refine d_off (i := 29) #[yy,yy,yy,yy,yy,yy,yy,yy,yy,yy,yy,yy,yy,yy,yy,yy,yy,yy,yy,yy,yy,yy,yy,yy,yy,yy,yy,yy,yy,yy,nn,nn,nn,nn,nn,nn,nn,nn,nn,nn,nn,nn,nn] S rfl (wanted_off S rfl rfl rfl rfl rfl) rfl rfl (by kernel_rfl) (fun _ _ _ h => h) ?_; clear S a; intro a S
       refine d_pure (i := 30) #[yy,yy,yy,yy,yy,yy,yy,yy,yy,yy,yy,yy,yy,yy,yy,yy,yy,yy,yy,yy,yy,yy,yy,yy,yy,yy,yy,yy,yy,yy,yy,nn,nn,nn,nn,nn,nn,nn,nn,nn,nn,nn,nn] S rfl (p_pick_t rfl rfl rfl) (wanted_none rfl) rfl rfl (by kernel_rfl) (fun _ _ _ h => h) ?_; clear S a; intro a S
       refine d_pure (i := 31) #[yy,yy,yy,yy,yy,yy,yy,yy,yy,yy,yy,yy,yy,yy,yy,yy,yy,yy,yy,yy,yy,yy,yy,yy,yy,yy,yy,yy,yy,yy,yy,yy,nn,nn,nn,nn,nn,nn,nn,nn,nn,nn,nn] S rfl (p_move rfl) (wanted_none rfl) rfl rfl (by kernel_rfl) (fun _ _ _ h => h) ?_; clear S a; intro a S
       refine d_off (i := 32) #[yy,yy,yy,yy,yy,yy,yy,yy,yy,yy,yy,yy,yy,yy,yy,yy,yy,yy,yy,yy,yy,yy,yy,yy,yy,yy,yy,yy,yy,yy,yy,yy,yy,nn,nn,nn,nn,nn,nn,nn,nn,nn,nn] S rfl (wanted_off S rfl rfl rfl rfl rfl) rfl rfl (by kernel_rfl) (fun _ _ _ h => h) ?_; clear S a; intro a S
       refine d_off (i := 33) #[yy,yy,yy,yy,yy,yy,yy,yy,yy,yy,yy,yy,yy,yy,yy,yy,yy,yy,yy,yy,yy,yy,yy,yy,yy,yy,yy,yy,yy,yy,yy,yy,yy,yy,nn,nn,nn,nn,nn,nn,nn,nn,nn] S rfl (wanted_off S rfl rfl rfl rfl rfl) rfl rfl (by kernel_rfl) (fun _ _ _ h => h) ?_; clear S a; intro a S
       refine d_off (i := 34) #[yy,yy,yy,yy,yy,yy,yy,yy,yy,yy,yy,yy,yy,yy,yy,yy,yy,yy,yy,yy,yy,yy,yy,yy,yy,yy,yy,yy,yy,yy,yy,yy,yy,yy,yy,nn,nn,nn,nn,nn,nn,nn,nn] S rfl (wanted_off S rfl rfl rfl rfl rfl) rfl rfl (by kernel_rfl) (fun _ _ _ h => h) ?_; clear S a; intro a S
       refine d_off (i := 35) #[yy,yy,yy,yy,yy,yy,yy,yy,yy,yy,yy,yy,yy,yy,yy,yy,yy,yy,yy,yy,yy,yy,yy,yy,yy,yy,yy,yy,yy,yy,yy,yy,yy,yy,yy,yy,nn,nn,nn,nn,nn,nn,nn] S rfl (wanted_off S rfl rfl rfl rfl rfl) rfl rfl (by kernel_rfl) (fun _ _ _ h => h) ?_; clear S a; intro a S
       refine d_pure (i := 36) #[yy,yy,yy,yy,yy,yy,yy,yy,yy,yy,yy,yy,yy,yy,yy,yy,yy,yy,yy,yy,yy,yy,yy,yy,yy,yy,yy,yy,yy,yy,yy,yy,yy,yy,yy,yy,yy,nn,nn,nn,nn,nn,nn] S rfl (p_pick_t rfl rfl rfl) (wanted_none rfl) rfl rfl (by kernel_rfl) (fun _ _ _ h => h) ?_; clear S a; intro a S
       refine d_pure (i := 37) #[yy,yy,yy,yy,yy,yy,yy,yy,yy,yy,yy,yy,yy,yy,yy,yy,yy,yy,yy,yy,yy,yy,yy,yy,yy,yy,yy,yy,yy,yy,yy,yy,yy,yy,yy,yy,yy,yy,nn,nn,nn,nn,nn] S rfl (p_move rfl) (wanted_none rfl) rfl rfl (by kernel_rfl) (fun _ _ _ h => h) ?_; clear S a; intro a S
       refine d_off (i := 38) #[yy,yy,yy,yy,yy,yy,yy,yy,yy,yy,yy,yy,yy,yy,yy,yy,yy,yy,yy,yy,yy,yy,yy,yy,yy,yy,yy,yy,yy,yy,yy,yy,yy,yy,yy,yy,yy,yy,yy,nn,nn,nn,nn] S rfl (wanted_off S rfl rfl rfl rfl rfl) rfl rfl (by kernel_rfl) (fun _ _ _ h => h) ?_; clear S a; intro a S
       refine d_off (i := 39) #[yy,yy,yy,yy,yy,yy,yy,yy,yy,yy,yy,yy,yy,yy,yy,yy,yy,yy,yy,yy,yy,yy,yy,yy,yy,yy,yy,yy,yy,yy,yy,yy,yy,yy,yy,yy,yy,yy,yy,yy,nn,nn,nn] S rfl (wanted_off S rfl rfl rfl rfl rfl) rfl rfl (by kernel_rfl) (fun _ _ _ h => h) ?_; clear S a; intro a S
       refine d_off (i := 40) #[yy,yy,yy,yy,yy,yy,yy,yy,yy,yy,yy,yy,yy,yy,yy,yy,yy,yy,yy,yy,yy,yy,yy,yy,yy,yy,yy,yy,yy,yy,yy,yy,yy,yy,yy,yy,yy,yy,yy,yy,yy,nn,nn] S rfl (wanted_off S rfl rfl rfl rfl rfl) rfl rfl (by kernel_rfl) (fun _ _ _ h => h) ?_; clear S a; intro a S
       refine d_off (i := 41) #[yy,yy,yy,yy,yy,yy,yy,yy,yy,yy,yy,yy,yy,yy,yy,yy,yy,yy,yy,yy,yy,yy,yy,yy,yy,yy,yy,yy,yy,yy,yy,yy,yy,yy,yy,yy,yy,yy,yy,yy,yy,yy,nn] S rfl (wanted_off S rfl rfl rfl rfl rfl) rfl rfl (by kernel_rfl) (fun _ _ _ h => h) ?_; clear S a; intro a S
       refine d_pure (i := 42) #[yy,yy,yy,yy,yy,yy,yy,yy,yy,yy,yy,yy,yy,yy,yy,yy,yy,yy,yy,yy,yy,yy,yy,yy,yy,yy,yy,yy,yy,yy,yy,yy,yy,yy,yy,yy,yy,yy,yy,yy,yy,yy,yy] S rfl (p_pick_t rfl rfl rfl) (wanted_none rfl) rfl rfl (by kernel_rfl) (fun _ _ _ h => h) ?_; clear S a; intro a S
       refine d_done (by kernel_rfl) ?_
       refine e_then ?_
       refine c_cond (b := true) S rfl (fun _ => ?_) (fun h => by cases h)
       refine wp_seq ?_
       refine c_region ?_
       refine l_pure S (p_assign rfl) rfl rfl rfl ?_; clear S a; intro a S
       refine l_nil ?_
       refine e_then ?_
       refine wp_ret ?_
       refine e_then_ret ?_
       refine e_in_ret ?_
       refine e_in_ret ?_
       refine e_then_ret ?_
       refine e_in_ret ?_
       refine e_then_ret ?_
       have hbad : up.V s i = false := by
        have e1 : Lib.checkN (s.size - i) (HHW.bt s ((i + 1 : Nat) : Int)).toNat (HHW.bt s ((i + 2 : Nat) : Int)).toNat (HHW.bt s ((i + 3 : Nat) : Int)).toNat (f % 8) (Lib.accLo (f / 16)) (Lib.accHi (f / 16)) = none := by
         unfold Lib.checkN; repeat' split
         all_goals first | rfl | (exfalso; omega)
        rw [hlead, e1]
       exact r_ret1 S rfl rfl ⟨by rw [hV, hbad], H.below⟩
      ·
       have c110 := bc110
       have c110 := of_decide_eq_false c110
       refine d_pure (i := 4) #[yy,yy,yy,yy,yy,nn,nn,nn,nn,nn,nn,nn,nn,nn,nn,nn,nn,nn,nn,nn,nn,nn,nn,nn,nn,nn,nn,nn,nn,nn,nn,nn,nn,nn,nn,nn,nn,nn,nn,nn,nn,nn,nn] S rfl (p_move rfl) (wanted_on S rfl rfl rfl rfl bc110) rfl rfl (by kernel_rfl) (fun _ _ _ h => h) ?_; clear S a; intro a S
       refine d_pure (i := 5) #[yy,yy,yy,yy,yy,yy,nn,nn,nn,nn,nn,nn,nn,nn,nn,nn,nn,nn,nn,nn,nn,nn,nn,nn,nn,nn,nn,nn,nn,nn,nn,nn,nn,nn,nn,nn,nn,nn,nn,nn,nn,nn,nn] S rfl (p_indexAddr rfl rfl (fun w => ia_slice Tryd.underlying32 sz5 (by omega) (by omega))) (wanted_on S rfl rfl rfl rfl bc110) rfl rfl (by kernel_rfl) (fun _ _ _ h => h) ?_; clear S a; intro a S
       refine d_read (i := 6) #[yy,yy,yy,yy,yy,yy,yy,nn,nn,nn,nn,nn,nn,nn,nn,nn,nn,nn,nn,nn,nn,nn,nn,nn,nn,nn,nn,nn,nn,nn,nn,nn,nn,nn,nn,nn,nn,nn,nn,nn,nn,nn,nn] S H rfl (r_byte (l := ((ints s).drop i)) (i := 1) (v := HHW.bt s ((i + 1 : Nat) : Int)) rfl (by omega) ag5 hRo4 rfl (int_at s rfl (by omega))) (wanted_on S rfl rfl rfl rfl bc110) rfl rfl (by kernel_rfl) (fun _ _ _ h => h) ?_; clear S a; intro a S
       refine d_pure (i := 7) #[yy,yy,yy,yy,yy,yy,yy,yy,nn,nn,nn,nn,nn,nn,nn,nn,nn,nn,nn,nn,nn,nn,nn,nn,nn,nn,nn,nn,nn,nn,nn,nn,nn,nn,nn,nn,nn,nn,nn,nn,nn,nn,nn] S rfl (p_fieldAddr rfl (fun w => fa83_0 w _ _)) (wanted_on S rfl rfl rfl rfl bc110) rfl rfl (by kernel_rfl) (fun _ _ _ h => h) ?_; clear S a; intro a S
       refine d_read (i := 8) #[yy,yy,yy,yy,yy,yy,yy,yy,yy,nn,nn,nn,nn,nn,nn,nn,nn,nn,nn,nn,nn,nn,nn,nn,nn,nn,nn,nn,nn,nn,nn,nn,nn,nn,nn,nn,nn,nn,nn,nn,nn,nn,nn] S H rfl (r_load rfl List.mem_cons_self rfl (fun w hc => ld1 ag5 hc)) (wanted_on S rfl rfl rfl rfl bc110) rfl rfl (by kernel_rfl) (fun _ _ _ h => h) ?_; clear S a; intro a S
       refine d_pure (i := 9) #[yy,yy,yy,yy,yy,yy,yy,yy,yy,yy,nn,nn,nn,nn,nn,nn,nn,nn,nn,nn,nn,nn,nn,nn,nn,nn,nn,nn,nn,nn,nn,nn,nn,nn,nn,nn,nn,nn,nn,nn,nn,nn,nn] S rfl (p_lss rfl rfl) (wanted_on S rfl rfl rfl rfl bc110) rfl rfl (by kernel_rfl) (fun _ _ _ h => h) ?_; clear S a; intro a S
       refine d_pure (i := 10) #[yy,yy,yy,yy,yy,yy,yy,yy,yy,yy,yy,nn,nn,nn,nn,nn,nn,nn,nn,nn,nn,nn,nn,nn,nn,nn,nn,nn,nn,nn,nn,nn,nn,nn,nn,nn,nn,nn,nn,nn,nn,nn,nn] S rfl (p_pick_f rfl bc110 rfl) (wanted_none rfl) rfl rfl (by kernel_rfl) (fun _ _ _ h => h) ?_; clear S a; intro a S
       refine d_pure (i := 11) #[yy,yy,yy,yy,yy,yy,yy,yy,yy,yy,yy,yy,nn,nn,nn,nn,nn,nn,nn,nn,nn,nn,nn,nn,nn,nn,nn,nn,nn,nn,nn,nn,nn,nn,nn,nn,nn,nn,nn,nn,nn,nn,nn] S rfl (p_move rfl) (wanted_none rfl) rfl rfl (by kernel_rfl) (fun _ _ _ h => h) ?_; clear S a; intro a S
       refine d_split (S.of 154 rfl) (fun bc120 => ?_) (fun bc120 => ?_)
       ·
        have c120 := bc120
        have c120 := of_decide_eq_true c120
        refine d_off (i := 12) #[yy,yy,yy,yy,yy,yy,yy,yy,yy,yy,yy,yy,yy,nn,nn,nn,nn,nn,nn,nn,nn,nn,nn,nn,nn,nn,nn,nn,nn,nn,nn,nn,nn,nn,nn,nn,nn,nn,nn,nn,nn,nn,nn] S rfl (wanted_off S rfl rfl rfl rfl bc120) rfl rfl (by kernel_rfl) (fun _ _ _ h => h) ?_; clear S a; intro a S
        refine d_off (i := 13) #[yy,yy,yy,yy,yy,yy,yy,yy,yy,yy,yy,yy,yy,yy,nn,nn,nn,nn,nn,nn,nn,nn,nn,nn,nn,nn,nn,nn,nn,nn,nn,nn,nn,nn,nn,nn,nn,nn,nn,nn,nn,nn,nn] S rfl (wanted_off S rfl rfl rfl rfl bc120) rfl rfl (by kernel_rfl) (fun _ _ _ h => h) ?_; clear S a; intro a S
        refine d_off (i := 14) #[yy,yy,yy,yy,yy,yy,yy,yy,yy,yy,yy,yy,yy,yy,yy,nn,nn,nn,nn,nn,nn,nn,nn,nn,nn,nn,nn,nn,nn,nn,nn,nn,nn,nn,nn,nn,nn,nn,nn,nn,nn,nn,nn] S rfl (wanted_off S rfl rfl rfl rfl bc120) rfl rfl (by kernel_rfl) (fun _ _ _ h => h) ?_; clear S a; intro a S
        refine d_off (i := 15) #[yy,yy,yy,yy,yy,yy,yy,yy,yy,yy,yy,yy,yy,yy,yy,yy,nn,nn,nn,nn,nn,nn,nn,nn,nn,nn,nn,nn,nn,nn,nn,nn,nn,nn,nn,nn,nn,nn,nn,nn,nn,nn,nn] S rfl (wanted_off S rfl rfl rfl rfl bc120) rfl rfl (by kernel_rfl) (fun _ _ _ h => h) ?_; clear S a; intro a S
        refine d_off (i := 16) #[yy,yy,yy,yy,yy,yy,yy,yy,yy,yy,yy,yy,yy,yy,yy,yy,yy,nn,nn,nn,nn,nn,nn,nn,nn,nn,nn,nn,nn,nn,nn,nn,nn,nn,nn,nn,nn,nn,nn,nn,nn,nn,nn] S rfl (wanted_off S rfl rfl rfl rfl bc120) rfl rfl (by kernel_rfl) (fun _ _ _ h => h) ?_; clear S a; intro a S
        refine d_off (i := 17) #[yy,yy,yy,yy,yy,yy,yy,yy,yy,yy,yy,yy,yy,yy,yy,yy,yy,yy,nn,nn,nn,nn,nn,nn,nn,nn,nn,nn,nn,nn,nn,nn,nn,nn,nn,nn,nn,nn,nn,nn,nn,nn,nn] S rfl (wanted_off S rfl rfl rfl rfl bc120) rfl rfl (by kernel_rfl) (fun _ _ _ h => h) ?_; clear S a; intro a S
        refine d_pure (i := 18) #[yy,yy,yy,yy,yy,yy,yy,yy,yy,yy,yy,yy,yy,yy,yy,yy,yy,yy,yy,nn,nn,nn,nn,nn,nn,nn,nn,nn,nn,nn,nn,nn,nn,nn,nn,nn,nn,nn,nn,nn,nn,nn,nn] S rfl (p_pick_t rfl bc120 rfl) (wanted_none rfl) rfl rfl (by kernel_rfl) (fun _ _ _ h => h) ?_; clear S a; intro a S
        refine d_pure (i := 19) #[yy,yy,yy,yy,yy,yy,yy,yy,yy,yy,yy,yy,yy,yy,yy,yy,yy,yy,yy,yy,nn,nn,nn,nn,nn,nn,nn,nn,nn,nn,nn,nn,nn,nn,nn,nn,nn,nn,nn,nn,nn,nn,nn] S rfl (p_move rfl) (wanted_none rfl) rfl rfl (by kernel_rfl) (fun _ _ _ h => h) ?_; clear S a; intro a S
        refine d_off (i := 20) #[yy,yy,yy,yy,yy,yy,yy,yy,yy,yy,yy,yy,yy,yy,yy,yy,yy,yy,yy,yy,yy,nn,nn,nn,nn,nn,nn,nn,nn,nn,nn,nn,nn,nn,nn,nn,nn,nn,nn,nn,nn,nn,nn] S rfl (wanted_off S rfl rfl rfl rfl rfl) rfl rfl (by kernel_rfl) (fun _ _ _ h => h) ?_; clear S a; intro a S
        refine d_off (i := 21) #[yy,yy,yy,yy,yy,yy,yy,yy,yy,yy,yy,yy,yy,yy,yy,yy,yy,yy,yy,yy,yy,yy,nn,nn,nn,nn,nn,nn,nn,nn,nn,nn,nn,nn,nn,nn,nn,nn,nn,nn,nn,nn,nn] S rfl (wanted_off S rfl rfl rfl rfl rfl) rfl rfl (by kernel_rfl) (fun _ _ _ h => h) ?_; clear S a; intro a S
        refine d_off (i := 22) #[yy,yy,yy,yy,yy,yy,yy,yy,yy,yy,yy,yy,yy,yy,yy,yy,yy,yy,yy,yy,yy,yy,yy,nn,nn,nn,nn,nn,nn,nn,nn,nn,nn,nn,nn,nn,nn,nn,nn,nn,nn,nn,nn] S rfl (wanted_off S rfl rfl rfl rfl rfl) rfl rfl (by kernel_rfl) (fun _ _ _ h => h) ?_; clear S a; intro a S
        refine d_off (i := 23) #[yy,yy,yy,yy,yy,yy,yy,yy,yy,yy,yy,yy,yy,yy,yy,yy,yy,yy,yy,yy,yy,yy,yy,yy,nn,nn,nn,nn,nn,nn,nn,nn,nn,nn,nn,nn,nn,nn,nn,nn,nn,nn,nn] S rfl (wanted_off S rfl rfl rfl rfl rfl) rfl rfl (by kernel_rfl) (fun _ _ _ h => h) ?_; clear S a; intro a S
        refine d_pure (i := 24) #[yy,yy,yy,yy,yy,yy,yy,yy,yy,yy,yy,yy,yy,yy,yy,yy,yy,yy,yy,yy,yy,yy,yy,yy,yy,nn,nn,nn,nn,nn,nn,nn,nn,nn,nn,nn,nn,nn,nn,nn,nn,nn,nn] S rfl (p_pick_t rfl rfl rfl) (wanted_none rfl) rfl rfl (by kernel_rfl) (fun _ _ _ h => h) ?_; clear S a; intro a S
        refine d_pure (i := 25) #[yy,yy,yy,yy,yy,yy,yy,yy,yy,yy,yy,yy,yy,yy,yy,yy,yy,yy,yy,yy,yy,yy,yy,yy,yy,yy,nn,nn,nn,nn,nn,nn,nn,nn,nn,nn,nn,nn,nn,nn,nn,nn,nn] S rfl (p_move rfl) (wanted_none rfl) rfl rfl (by kernel_rfl) (fun _ _ _ h => h) ?_; clear S a; intro a S
        refine d_off (i := 26) #[yy,yy,yy,yy,yy,yy,yy,yy,yy,yy,yy,yy,yy,yy,yy,yy,yy,yy,yy,yy,yy,yy,yy,yy,yy,yy,yy,nn,nn,nn,nn,nn,nn,nn,nn,nn,nn,nn,nn,nn,nn,nn,nn] S rfl (wanted_off S rfl rfl rfl rfl rfl) rfl rfl (by kernel_rfl) (fun _ _ _ h => h) ?_; clear S a; intro a S
        refine d_off (i := 27) #[yy,yy,yy,yy,yy,yy,yy,yy,yy,yy,yy,yy,yy,yy,yy,yy,yy,yy,yy,yy,yy,yy,yy,yy,yy,yy,yy,yy,nn,nn,nn,nn,nn,nn,nn,nn,nn,nn,nn,nn,nn,nn,nn] S rfl (wanted_off S rfl rfl rfl rfl rfl) rfl rfl (by kernel_rfl) (fun _ _ _ h => h) ?_; clear S a; intro a S
        refine d_off (i := 28) #[yy,yy,yy,yy,yy,yy,yy,yy,yy,yy,yy,yy,yy,yy,yy,yy,yy,yy,yy,yy,yy,yy,yy,yy,yy,yy,yy,yy,yy,nn,nn,nn,nn,nn,nn,nn,nn,nn,nn,nn,nn,nn,nn] S rfl (wanted_off S rfl rfl rfl rfl rfl) rfl rfl (by kernel_rfl) (fun _ _ _ h => h) ?_; clear S a; intro a S
        refine d_off (i := 29) #[yy,yy,yy,yy,yy,yy,yy,yy,yy,yy,yy,yy,yy,yy,yy,yy,yy,yy,yy,yy,yy,yy,yy,yy,yy,yy,yy,yy,yy,yy,nn,nn,nn,nn,nn,nn,nn,nn,nn,nn,nn,nn,nn] S rfl (wanted_off S rfl rfl rfl rfl rfl) rfl rfl (by kernel_rfl) (fun _ _ _ h => h) ?_; clear S a; intro a S
        refine d_pure (i := 30) #[yy,yy,yy,yy,yy,yy,yy,yy,yy,yy,yy,yy,yy,yy,yy,yy,yy,yy,yy,yy,yy,yy,yy,yy,yy,yy,yy,yy,yy,yy,yy,nn,nn,nn,nn,nn,nn,nn,nn,nn,nn,nn,nn] S rfl (p_pick_t rfl rfl rfl) (wanted_none rfl) rfl rfl (by kernel_rfl) (fun _ _ _ h => h) ?_; clear S a; intro a S
        refine d_pure (i := 31) #[yy,yy,yy,yy,yy,yy,yy,yy,yy,yy,yy,yy,yy,yy,yy,yy,yy,yy,yy,yy,yy,yy,yy,yy,yy,yy,yy,yy,yy,yy,yy,yy,nn,nn,nn,nn,nn,nn,nn,nn,nn,nn,nn] S rfl (p_move rfl) (wanted_none rfl) rfl rfl (by kernel_rfl) (fun _ _ _ h => h) ?_; clear S a; intro a S
        refine d_off (i := 32) #[yy,yy,yy,yy,yy,yy,yy,yy,yy,yy,yy,yy,yy,yy,yy,yy,yy,yy,yy,yy,yy,yy,yy,yy,yy,yy,yy,yy,yy,yy,yy,yy,yy,nn,nn,nn,nn,nn,nn,nn,nn,nn,nn] S rfl (wanted_off S rfl rfl rfl rfl rfl) rfl rfl (by kernel_rfl) (fun _ _ _ h => h) ?_; clear S a; intro a S
        refine d_off (i := 33) #[yy,yy,yy,yy,yy,yy,yy,yy,yy,yy,yy,yy,yy,yy,yy,yy,yy,yy,yy,yy,yy,yy,yy,yy,yy,yy,yy,yy,yy,yy,yy,yy,yy,yy,nn,nn,nn,nn,nn,nn,nn,nn,nn] S rfl (wanted_off S rfl rfl rfl rfl rfl) rfl rfl (by kernel_rfl) (fun _ _ _ h => h) ?_; clear S a; intro a S
        refine d_off (i := 34) #[yy,yy,yy,yy,yy,yy,yy,yy,yy,yy,yy,yy,yy,yy,yy,yy,yy,yy,yy,yy,yy,yy,yy,yy,yy,yy,yy,yy,yy,yy,yy,yy,yy,yy,yy,nn,nn,nn,nn,nn,nn,nn,nn] S rfl (wanted_off S rfl rfl rfl rfl rfl) rfl rfl (by kernel_rfl) (fun _ _ _ h => h) ?_; clear S a; intro a S
        refine d_off (i := 35) #[yy,yy,yy,yy,yy,yy,yy,yy,yy,yy,yy,yy,yy,yy,yy,yy,yy,yy,yy,yy,yy,yy,yy,yy,yy,yy,yy,yy,yy,yy,yy,yy,yy,yy,yy,yy,nn,nn,nn,nn,nn,nn,nn] S rfl (wanted_off S rfl rfl rfl rfl rfl) rfl rfl (by kernel_rfl) (fun _ _ _ h => h) ?_; clear S a; intro a S
        refine d_pure (i := 36) #[yy,yy,yy,yy,yy,yy,yy,yy,yy,yy,yy,yy,yy,yy,yy,yy,yy,yy,yy,yy,yy,yy,yy,yy,yy,yy,yy,yy,yy,yy,yy,yy,yy,yy,yy,yy,yy,nn,nn,nn,nn,nn,nn] S rfl (p_pick_t rfl rfl rfl) (wanted_none rfl) rfl rfl (by kernel_rfl) (fun _ _ _ h => h) ?_; clear S a; intro a S
        refine d_pure (i := 37) #[yy,yy,yy,yy,yy,yy,yy,yy,yy,yy,yy,yy,yy,yy,yy,yy,yy,yy,yy,yy,yy,yy,yy,yy,yy,yy,yy,yy,yy,yy,yy,yy,yy,yy,yy,yy,yy,yy,nn,nn,nn,nn,nn] S rfl (p_move rfl) (wanted_none rfl) rfl rfl (by kernel_rfl) (fun _ _ _ h => h) ?_; clear S a; intro a S
        refine d_off (i := 38) #[yy,yy,yy,yy,yy,yy,yy,yy,yy,yy,yy,yy,yy,yy,yy,yy,yy,yy,yy,yy,yy,yy,yy,yy,yy,yy,yy,yy,yy,yy,yy,yy,yy,yy,yy,yy,yy,yy,yy,nn,nn,nn,nn] S rfl (wanted_off S rfl rfl rfl rfl rfl) rfl rfl (by kernel_rfl) (fun _ _ _ h => h) ?_; clear S a; intro a S
        refine d_off (i := 39) #[yy,yy,yy,yy,yy,yy,yy,yy,yy,yy,yy,yy,yy,yy,yy,yy,yy,yy,yy,yy,yy,yy,yy,yy,yy,yy,yy,yy,yy,yy,yy,yy,yy,yy,yy,yy,yy,yy,yy,yy,nn,nn,nn] S rfl (wanted_off S rfl rfl rfl rfl rfl) rfl rfl (by kernel_rfl) (fun _ _ _ h => h) ?_; clear S a; intro a S
        refine d_off (i := 40) #[yy,yy,yy,yy,yy,yy,yy,yy,yy,yy,yy,yy,yy,yy,yy,yy,yy,yy,yy,yy,yy,yy,yy,yy,yy,yy,yy,yy,yy,yy,yy,yy,yy,yy,yy,yy,yy,yy,yy,yy,yy,nn,nn] S rfl (wanted_off S rfl rfl rfl rfl rfl) rfl rfl (by kernel_rfl) (fun _ _ _ h => h) ?_; clear S a; intro a S
        refine d_off (i := 41) #[yy,yy,yy,yy,yy,yy,yy,yy,yy,yy,yy,yy,yy,yy,yy,yy,yy,yy,yy,yy,yy,yy,yy,yy,yy,yy,yy,yy,yy,yy,yy,yy,yy,yy,yy,yy,yy,yy,yy,yy,yy,yy,nn] S rfl (wanted_off S rfl rfl rfl rfl rfl) rfl rfl (by kernel_rfl) (fun _ _ _ h => h) ?_; clear S a; intro a S
        refine d_pure (i := 42) #[yy,yy,yy,yy,yy,yy,yy,yy,yy,yy,yy,yy,yy,yy,yy,yy,yy,yy,yy,yy,yy,yy,yy,yy,yy,yy,yy,yy,yy,yy,yy,yy,yy,yy,yy,yy,yy,yy,yy,yy,yy,yy,yy] S rfl (p_pick_t rfl rfl rfl) (wanted_none rfl) rfl rfl (by kernel_rfl) (fun _ _ _ h => h) ?_; clear S a; intro a S
        refine d_done (by kernel_rfl) ?_
        refine e_then ?_
        refine c_cond (b := true) S rfl (fun _ => ?_) (fun h => by cases h)
        refine wp_seq ?_
        refine c_region ?_
        refine l_pure S (p_assign rfl) rfl rfl rfl ?_; clear S a; intro a S
        refine l_nil ?_
        refine e_then ?_
        refine wp_ret ?_
        refine e_then_ret ?_
        refine e_in_ret ?_
        refine e_in_ret ?_
        refine e_then_ret ?_
        refine e_in_ret ?_
        refine e_then_ret ?_
        have hbad : up.V s i = false := by
         have e1 : Lib.checkN (s.size - i) (HHW.bt s ((i + 1 : Nat) : Int)).toNat (HHW.bt s ((i + 2 : Nat) : Int)).toNat (HHW.bt s ((i + 3 : Nat) : Int)).toNat (f % 8) (Lib.accLo (f / 16)) (Lib.accHi (f / 16)) = none := by
          unfold Lib.checkN; repeat' split
          all_goals first | rfl | (exfalso; omega)
         rw [hlead, e1]
        exact r_ret1 S rfl rfl ⟨by rw [hV, hbad], H.below⟩
       ·
        have c120 := bc120
        have c120 := of_decide_eq_false c120
        refine d_pure (i := 12) #[yy,yy,yy,yy,yy,yy,yy,yy,yy,yy,yy,yy,yy,nn,nn,nn,nn,nn,nn,nn,nn,nn,nn,nn,nn,nn,nn,nn,nn,nn,nn,nn,nn,nn,nn,nn,nn,nn,nn,nn,nn,nn,nn] S rfl (p_fieldAddr rfl (fun w => fa83_1 w _ _)) (wanted_on S rfl rfl rfl rfl bc120) rfl rfl (by kernel_rfl) (fun _ _ _ h => h) ?_; clear S a; intro a S
        refine d_read (i := 13) #[yy,yy,yy,yy,yy,yy,yy,yy,yy,yy,yy,yy,yy,yy,nn,nn,nn,nn,nn,nn,nn,nn,nn,nn,nn,nn,nn,nn,nn,nn,nn,nn,nn,nn,nn,nn,nn,nn,nn,nn,nn,nn,nn] S H rfl (r_load rfl List.mem_cons_self rfl (fun w hc => ld1 ag5 hc)) (wanted_on S rfl rfl rfl rfl bc120) rfl rfl (by kernel_rfl) (fun _ _ _ h => h) ?_; clear S a; intro a S
        refine d_pure (i := 14) #[yy,yy,yy,yy,yy,yy,yy,yy,yy,yy,yy,yy,yy,yy,yy,nn,nn,nn,nn,nn,nn,nn,nn,nn,nn,nn,nn,nn,nn,nn,nn,nn,nn,nn,nn,nn,nn,nn,nn,nn,nn,nn,nn] S rfl (p_move rfl) (wanted_on S rfl rfl rfl rfl bc120) rfl rfl (by kernel_rfl) (fun _ _ _ h => h) ?_; clear S a; intro a S
        refine d_pure (i := 15) #[yy,yy,yy,yy,yy,yy,yy,yy,yy,yy,yy,yy,yy,yy,yy,yy,nn,nn,nn,nn,nn,nn,nn,nn,nn,nn,nn,nn,nn,nn,nn,nn,nn,nn,nn,nn,nn,nn,nn,nn,nn,nn,nn] S rfl (p_indexAddr rfl rfl (fun w => ia_slice Tryd.underlying32 sz5 (by omega) (by omega))) (wanted_on S rfl rfl rfl rfl bc120) rfl rfl (by kernel_rfl) (fun _ _ _ h => h) ?_; clear S a; intro a S
        refine d_read (i := 16) #[yy,yy,yy,yy,yy,yy,yy,yy,yy,yy,yy,yy,yy,yy,yy,yy,yy,nn,nn,nn,nn,nn,nn,nn,nn,nn,nn,nn,nn,nn,nn,nn,nn,nn,nn,nn,nn,nn,nn,nn,nn,nn,nn] S H rfl (r_byte (l := ((ints s).drop i)) (i := 1) (v := HHW.bt s ((i + 1 : Nat) : Int)) rfl (by omega) ag5 hRo4 rfl (int_at s rfl (by omega))) (wanted_on S rfl rfl rfl rfl bc120) rfl rfl (by kernel_rfl) (fun _ _ _ h => h) ?_; clear S a; intro a S
        refine d_pure (i := 17) #[yy,yy,yy,yy,yy,yy,yy,yy,yy,yy,yy,yy,yy,yy,yy,yy,yy,yy,nn,nn,nn,nn,nn,nn,nn,nn,nn,nn,nn,nn,nn,nn,nn,nn,nn,nn,nn,nn,nn,nn,nn,nn,nn] S rfl (p_lss rfl rfl) (wanted_on S rfl rfl rfl rfl bc120) rfl rfl (by kernel_rfl) (fun _ _ _ h => h) ?_; clear S a; intro a S
        refine d_pure (i := 18) #[yy,yy,yy,yy,yy,yy,yy,yy,yy,yy,yy,yy,yy,yy,yy,yy,yy,yy,yy,nn,nn,nn,nn,nn,nn,nn,nn,nn,nn,nn,nn,nn,nn,nn,nn,nn,nn,nn,nn,nn,nn,nn,nn] S rfl (p_pick_f rfl bc120 rfl) (wanted_none rfl) rfl rfl (by kernel_rfl) (fun _ _ _ h => h) ?_; clear S a; intro a S
        refine d_pure (i := 19) #[yy,yy,yy,yy,yy,yy,yy,yy,yy,yy,yy,yy,yy,yy,yy,yy,yy,yy,yy,yy,nn,nn,nn,nn,nn,nn,nn,nn,nn,nn,nn,nn,nn,nn,nn,nn,nn,nn,nn,nn,nn,nn,nn] S rfl (p_move rfl) (wanted_none rfl) rfl rfl (by kernel_rfl) (fun _ _ _ h => h) ?_; clear S a; intro a S
        refine d_split (S.of 162 rfl) (fun bc129 => ?_) (fun bc129 => ?_)
        ·
         have c129 := bc129
         have c129 := of_decide_eq_true c129
         refine d_off (i := 20) #[yy,yy,yy,yy,yy,yy,yy,yy,yy,yy,yy,yy,yy,yy,yy,yy,yy,yy,yy,yy,yy,nn,nn,nn,nn,nn,nn,nn,nn,nn,nn,nn,nn,nn,nn,nn,nn,nn,nn,nn,nn,nn,nn] S rfl (wanted_off S rfl rfl rfl rfl bc129) rfl rfl (by kernel_rfl) (fun _ _ _ h => h) ?_; clear S a; intro a S
         refine d_off (i := 21) #[yy,yy,yy,yy,yy,yy,yy,yy,yy,yy,yy,yy,yy,yy,yy,yy,yy,yy,yy,yy,yy,yy,nn,nn,nn,nn,nn,nn,nn,nn,nn,nn,nn,nn,nn,nn,nn,nn,nn,nn,nn,nn,nn] S rfl (wanted_off S rfl rfl rfl rfl bc129) rfl rfl (by kernel_rfl) (fun _ _ _ h => h) ?_; clear S a; intro a S
         refine d_off (i := 22) #[yy,yy,yy,yy,yy,yy,yy,yy,yy,yy,yy,yy,yy,yy,yy,yy,yy,yy,yy,yy,yy,yy,yy,nn,nn,nn,nn,nn,nn,nn,nn,nn,nn,nn,nn,nn,nn,nn,nn,nn,nn,nn,nn] S rfl (wanted_off S rfl rfl rfl rfl bc129) rfl rfl (by kernel_rfl) (fun _ _ _ h => h) ?_; clear S a; intro a S
         refine d_off (i := 23) #[yy,yy,yy,yy,yy,yy,yy,yy,yy,yy,yy,yy,yy,yy,yy,yy,yy,yy,yy,yy,yy,yy,yy,yy,nn,nn,nn,nn,nn,nn,nn,nn,nn,nn,nn,nn,nn,nn,nn,nn,nn,nn,nn] S rfl (wanted_off S rfl rfl rfl rfl bc129) rfl rfl (by kernel_rfl) (fun _ _ _ h => h) ?_; clear S a; intro a S
         refine d_pure (i := 24) #[yy,yy,yy,yy,yy,yy,yy,yy,yy,yy,yy,yy,yy,yy,yy,yy,yy,yy,yy,yy,yy,yy,yy,yy,yy,nn,nn,nn,nn,nn,nn,nn,nn,nn,nn,nn,nn,nn,nn,nn,nn,nn,nn] S rfl (p_pick_t rfl bc129 rfl) (wanted_none rfl) rfl rfl (by kernel_rfl) (fun _ _ _ h => h) ?_; clear S a; intro a S
         refine d_pure (i := 25) #[yy,yy,yy,yy,yy,yy,yy,yy,yy,yy,yy,yy,yy,yy,yy,yy,yy,yy,yy,yy,yy,yy,yy,yy,yy,yy,nn,nn,nn,nn,nn,nn,nn,nn,nn,nn,nn,nn,nn,nn,nn,nn,nn] S rfl (p_move rfl) (wanted_none rfl) rfl rfl (by kernel_rfl) (fun _ _ _ h => h) ?_; clear S a; intro a S
         refine d_off (i := 26) #[yy,yy,yy,yy,yy,yy,yy,yy,yy,yy,yy,yy,yy,yy,yy,yy,yy,yy,yy,yy,yy,yy,yy,yy,yy,yy,yy,nn,nn,nn,nn,nn,nn,nn,nn,nn,nn,nn,nn,nn,nn,nn,nn] S rfl (wanted_off S rfl rfl rfl rfl rfl) rfl rfl (by kernel_rfl) (fun _ _ _ h => h) ?_; clear S a; intro a S
         refine d_off (i := 27) #[yy,yy,yy,yy,yy,yy,yy,yy,yy,yy,yy,yy,yy,yy,yy,yy,yy,yy,yy,yy,yy,yy,yy,yy,yy,yy,yy,yy,nn,nn,nn,nn,nn,nn,nn,nn,nn,nn,nn,nn,nn,nn,nn] S rfl (wanted_off S rfl rfl rfl rfl rfl) rfl rfl (by kernel_rfl) (fun _ _ _ h => h) ?_; clear S a; intro a S
         refine d_off (i := 28) #[yy,yy,yy,yy,yy,yy,yy,yy,yy,yy,yy,yy,yy,yy,yy,yy,yy,yy,yy,yy,yy,yy,yy,yy,yy,yy,yy,yy,yy,nn,nn,nn,nn,nn,nn,nn,nn,nn,nn,nn,nn,nn,nn] S rfl (wanted_off S rfl rfl rfl rfl rfl) rfl rfl (by kernel_rfl) (fun _ _ _ h => h) ?_; clear S a; intro a S
         refine d_off (i := 29) #[yy,yy,yy,yy,yy,yy,yy,yy,yy,yy,yy,yy,yy,yy,yy,yy,yy,yy,yy,yy,yy,yy,yy,yy,yy,yy,yy,yy,yy,yy,nn,nn,nn,nn,nn,nn,nn,nn,nn,nn,nn,nn,nn] S rfl (wanted_off S rfl rfl rfl rfl rfl) rfl rfl (by kernel_rfl) (fun _ _ _ h => h) ?_; clear S a; intro a S
         refine d_pure (i := 30) #[yy,yy,yy,yy,yy,yy,yy,yy,yy,yy,yy,yy,yy,yy,yy,yy,yy,yy,yy,yy,yy,yy,yy,yy,yy,yy,yy,yy,yy,yy,yy,nn,nn,nn,nn,nn,nn,nn,nn,nn,nn,nn,nn] S rfl (p_pick_t rfl rfl rfl) (wanted_none rfl) rfl rfl (by kernel_rfl) (fun _ _ _ h => h) ?_; clear S a; intro a S
         refine d_pure (i := 31) #[yy,yy,yy,yy,yy,yy,yy,yy,yy,yy,yy,yy,yy,yy,yy,yy,yy,yy,yy,yy,yy,yy,yy,yy,yy,yy,yy,yy,yy,yy,yy,yy,nn,nn,nn,nn,nn,nn,nn,nn,nn,nn,nn] S rfl (p_move rfl) (wanted_none rfl) rfl rfl (by kernel_rfl) (fun _ _ _ h => h) ?_; clear S a; intro a S
         refine d_off (i := 32) #[yy,yy,yy,yy,yy,yy,yy,yy,yy,yy,yy,yy,yy,yy,yy,yy,yy,yy,yy,yy,yy,yy,yy,yy,yy,yy,yy,yy,yy,yy,yy,yy,yy,nn,nn,nn,nn,nn,nn,nn,nn,nn,nn] S rfl (wanted_off S rfl rfl rfl rfl rfl) rfl rfl (by kernel_rfl) (fun _ _ _ h => h) ?_; clear S a; intro a S
         refine d_off (i := 33) #[yy,yy,yy,yy,yy,yy,yy,yy,yy,yy,yy,yy,yy,yy,yy,yy,yy,yy,yy,yy,yy,yy,yy,yy,yy,yy,yy,yy,yy,yy,yy,yy,yy,yy,nn,nn,nn,nn,nn,nn,nn,nn,nn] S rfl (wanted_off S rfl rfl rfl rfl rfl) rfl rfl (by kernel_rfl) (fun _ _ _ h => h) ?_; clear S a; intro a S
         refine d_off (i := 34) #[yy,yy,yy,yy,yy,yy,yy,yy,yy,yy,yy,yy,yy,yy,yy,yy,yy,yy,yy,yy,yy,yy,yy,yy,yy,yy,yy,yy,yy,yy,yy,yy,yy,yy,yy,nn,nn,nn,nn,nn,nn,nn,nn] S rfl (wanted_off S rfl rfl rfl rfl rfl) rfl rfl (by kernel_rfl) (fun _ _ _ h => h) ?_; clear S a; intro a S
         refine d_off (i := 35) #[yy,yy,yy,yy,yy,yy,yy,yy,yy,yy,yy,yy,yy,yy,yy,yy,yy,yy,yy,yy,yy,yy,yy,yy,yy,yy,yy,yy,yy,yy,yy,yy,yy,yy,yy,yy,nn,nn,nn,nn,nn,nn,nn] S rfl (wanted_off S rfl rfl rfl rfl rfl) rfl rfl (by kernel_rfl) (fun _ _ _ h => h) ?_; clear S a; intro a S
         refine d_pure (i := 36) #[yy,yy,yy,yy,yy,yy,yy,yy,yy,yy,yy,yy,yy,yy,yy,yy,yy,yy,yy,yy,yy,yy,yy,yy,yy,yy,yy,yy,yy,yy,yy,yy,yy,yy,yy,yy,yy,nn,nn,nn,nn,nn,nn] S rfl (p_pick_t rfl rfl rfl) (wanted_none rfl) rfl rfl (by kernel_rfl) (fun _ _ _ h => h) ?_; clear S a; intro a S
         refine d_pure (i := 37) #[yy,yy,yy,yy,yy,yy,yy,yy,yy,yy,yy,yy,yy,yy,yy,yy,yy,yy,yy,yy,yy,yy,yy,yy,yy,yy,yy,yy,yy,yy,yy,yy,yy,yy,yy,yy,yy,yy,nn,nn,nn,nn,nn] S rfl (p_move rfl) (wanted_none rfl) rfl rfl (by kernel_rfl) (fun _ _ _ h => h) ?_; clear S a; intro a S
         refine d_off (i := 38) #[yy,yy,yy,yy,yy,yy,yy,yy,yy,yy,yy,yy,yy,yy,yy,yy,yy,yy,yy,yy,yy,yy,yy,yy,yy,yy,yy,yy,yy,yy,yy,yy,yy,yy,yy,yy,yy,yy,yy,nn,nn,nn,nn] S rfl (wanted_off S rfl rfl rfl rfl rfl) rfl rfl (by kernel_rfl) (fun _ _ _ h => h) ?_; clear S a; intro a S
         refine d_off (i := 39) #[yy,yy,yy,yy,yy,yy,yy,yy,yy,yy,yy,yy,yy,yy,yy,yy,yy,yy,yy,yy,yy,yy,yy,yy,yy,yy,yy,yy,yy,yy,yy,yy,yy,yy,yy,yy,yy,yy,yy,yy,nn,nn,nn] S rfl (wanted_off S rfl rfl rfl rfl rfl) rfl rfl (by kernel_rfl) (fun _ _ _ h => h) ?_; clear S a; intro a S
         refine d_off (i := 40) #[yy,yy,yy,yy,yy,yy,yy,yy,yy,yy,yy,yy,yy,yy,yy,yy,yy,yy,yy,yy,yy,yy,yy,yy,yy,yy,yy,yy,yy,yy,yy,yy,yy,yy,yy,yy,yy,yy,yy,yy,yy,nn,nn] S rfl (wanted_off S rfl rfl rfl rfl rfl) rfl rfl (by kernel_rfl) (fun _ _ _ h => h) ?_; clear S a; intro a S
         refine d_off (i := 41) #[yy,yy,yy,yy,yy,yy,yy,yy,yy,yy,yy,yy,yy,yy,yy,yy,yy,yy,yy,yy,yy,yy,yy,yy,yy,yy,yy,yy,yy,yy,yy,yy,yy,yy,yy,yy,yy,yy,yy,yy,yy,yy,nn] S rfl (wanted_off S rfl rfl rfl rfl rfl) rfl rfl (by kernel_rfl) (fun _ _ _ h => h) ?_; clear S a; intro a S
         refine d_pure (i := 42) #[yy,yy,yy,yy,yy,yy,yy,yy,yy,yy,yy,yy,yy,yy,yy,yy,yy,yy,yy,yy,yy,yy,yy,yy,yy,yy,yy,yy,yy,yy,yy,yy,yy,yy,yy,yy,yy,yy,yy,yy,yy,yy,yy] S rfl (p_pick_t rfl rfl rfl) (wanted_none rfl) rfl rfl (by kernel_rfl) (fun _ _ _ h => h) ?_; clear S a; intro a S
         refine d_done (by kernel_rfl) ?_
         refine e_then ?_
         refine c_cond (b := true) S rfl (fun _ => ?_) (fun h => by cases h)
         refine wp_seq ?_
         refine c_region ?_
         refine l_pure S (p_assign rfl) rfl rfl rfl ?_; clear S a; intro a S
         refine l_nil ?_
         refine e_then ?_
         refine wp_ret ?_
         refine e_then_ret ?_
         refine e_in_ret ?_
         refine e_in_ret ?_
         refine e_then_ret ?_
         refine e_in_ret ?_
         refine e_then_ret ?_
         have hbad : up.V s i = false := by
          have e1 : Lib.checkN (s.size - i) (HHW.bt s ((i + 1 : Nat) : Int)).toNat (HHW.bt s ((i + 2 : Nat) : Int)).toNat (HHW.bt s ((i + 3 : Nat) : Int)).toNat (f % 8) (Lib.accLo (f / 16)) (Lib.accHi (f / 16)) = none := by
           unfold Lib.checkN; repeat' split
           all_goals first | rfl | (exfalso; omega)
          rw [hlead, e1]
         exact r_ret1 S rfl rfl ⟨by rw [hV, hbad], H.below⟩
        ·
         have c129 := bc129
         have c129 := of_decide_eq_false c129
         refine d_pure (i := 20) #[yy,yy,yy,yy,yy,yy,yy,yy,yy,yy,yy,yy,yy,yy,yy,yy,yy,yy,yy,yy,yy,nn,nn,nn,nn,nn,nn,nn,nn,nn,nn,nn,nn,nn,nn,nn,nn,nn,nn,nn,nn,nn,nn] S rfl (p_move rfl) (wanted_on S rfl rfl rfl rfl bc129) rfl rfl (by kernel_rfl) (fun _ _ _ h => h) ?_; clear S a; intro a S
         refine d_pure (i := 21) #[yy,yy,yy,yy,yy,yy,yy,yy,yy,yy,yy,yy,yy,yy,yy,yy,yy,yy,yy,yy,yy,yy,nn,nn,nn,nn,nn,nn,nn,nn,nn,nn,nn,nn,nn,nn,nn,nn,nn,nn,nn,nn,nn] S rfl (p_indexAddr rfl rfl (fun w => ia_slice Tryd.underlying32 sz5 (by omega) (by omega))) (wanted_on S rfl rfl rfl rfl bc129) rfl rfl (by kernel_rfl) (fun _ _ _ h => h) ?_; clear S a; intro a S
         refine d_read (i := 22) #[yy,yy,yy,yy,yy,yy,yy,yy,yy,yy,yy,yy,yy,yy,yy,yy,yy,yy,yy,yy,yy,yy,yy,nn,nn,nn,nn,nn,nn,nn,nn,nn,nn,nn,nn,nn,nn,nn,nn,nn,nn,nn,nn] S H rfl (r_byte (l := ((ints s).drop i)) (i := 2) (v := HHW.bt s ((i + 2 : Nat) : Int)) rfl (by omega) ag5 hRo4 rfl (int_at s rfl (by omega))) (wanted_on S rfl rfl rfl rfl bc129) rfl rfl (by kernel_rfl) (fun _ _ _ h => h) ?_; clear S a; intro a S
         refine d_pure (i := 23) #[yy,yy,yy,yy,yy,yy,yy,yy,yy,yy,yy,yy,yy,yy,yy,yy,yy,yy,yy,yy,yy,yy,yy,yy,nn,nn,nn,nn,nn,nn,nn,nn,nn,nn,nn,nn,nn,nn,nn,nn,nn,nn,nn] S rfl (p_lss rfl rfl) (wanted_on S rfl rfl rfl rfl bc129) rfl rfl (by kernel_rfl) (fun _ _ _ h => h) ?_; clear S a; intro a S
         refine d_pure (i := 24) #[yy,yy,yy,yy,yy,yy,yy,yy,yy,yy,yy,yy,yy,yy,yy,yy,yy,yy,yy,yy,yy,yy,yy,yy,yy,nn,nn,nn,nn,nn,nn,nn,nn,nn,nn,nn,nn,nn,nn,nn,nn,nn,nn] S rfl (p_pick_f rfl bc129 rfl) (wanted_none rfl) rfl rfl (by kernel_rfl) (fun _ _ _ h => h) ?_; clear S a; intro a S
         refine d_pure (i := 25) #[yy,yy,yy,yy,yy,yy,yy,yy,yy,yy,yy,yy,yy,yy,yy,yy,yy,yy,yy,yy,yy,yy,yy,yy,yy,yy,nn,nn,nn,nn,nn,nn,nn,nn,nn,nn,nn,nn,nn,nn,nn,nn,nn] S rfl (p_move rfl) (wanted_none rfl) rfl rfl (by kernel_rfl) (fun _ _ _ h => h) ?_; clear S a; intro a S
         refine d_split (S.of 168 rfl) (fun bc137 => ?_) (fun bc137 => ?_)
         ·
          have c137 := bc137
          have c137 := of_decide_eq_true c137
          refine d_off (i := 26) #[yy,yy,yy,yy,yy,yy,yy,yy,yy,yy,yy,yy,yy,yy,yy,yy,yy,yy,yy,yy,yy,yy,yy,yy,yy,yy,yy,nn,nn,nn,nn,nn,nn,nn,nn,nn,nn,nn,nn,nn,nn,nn,nn] S rfl (wanted_off S rfl rfl rfl rfl bc137) rfl rfl (by kernel_rfl) (fun _ _ _ h => h) ?_; clear S a; intro a S
          refine d_off (i := 27) #[yy,yy,yy,yy,yy,yy,yy,yy,yy,yy,yy,yy,yy,yy,yy,yy,yy,yy,yy,yy,yy,yy,yy,yy,yy,yy,yy,yy,nn,nn,nn,nn,nn,nn,nn,nn,nn,nn,nn,nn,nn,nn,nn] S rfl (wanted_off S rfl rfl rfl rfl bc137) rfl rfl (by kernel_rfl) (fun _ _ _ h => h) ?_; clear S a; intro a S
          refine d_off (i := 28) #[yy,yy,yy,yy,yy,yy,yy,yy,yy,yy,yy,yy,yy,yy,yy,yy,yy,yy,yy,yy,yy,yy,yy,yy,yy,yy,yy,yy,yy,nn,nn,nn,nn,nn,nn,nn,nn,nn,nn,nn,nn,nn,nn] S rfl (wanted_off S rfl rfl rfl rfl bc137) rfl rfl (by kernel_rfl) (fun _ _ _ h => h) ?_; clear S a; intro a S
          refine d_off (i := 29) #[yy,yy,yy,yy,yy,yy,yy,yy,yy,yy,yy,yy,yy,yy,yy,yy,yy,yy,yy,yy,yy,yy,yy,yy,yy,yy,yy,yy,yy,yy,nn,nn,nn,nn,nn,nn,nn,nn,nn,nn,nn,nn,nn] S rfl (wanted_off S rfl rfl rfl rfl bc137) rfl rfl (by kernel_rfl) (fun _ _ _ h => h) ?_; clear S a; intro a S
          refine d_pure (i := 30) #[yy,yy,yy,yy,yy,yy,yy,yy,yy,yy,yy,yy,yy,yy,yy,yy,yy,yy,yy,yy,yy,yy,yy,yy,yy,yy,yy,yy,yy,yy,yy,nn,nn,nn,nn,nn,nn,nn,nn,nn,nn,nn,nn] S rfl (p_pick_t rfl bc137 rfl) (wanted_none rfl) rfl rfl (by kernel_rfl) (fun _ _ _ h => h) ?_; clear S a; intro a S
          refine d_pure (i := 31) #[yy,yy,yy,yy,yy,yy,yy,yy,yy,yy,yy,yy,yy,yy,yy,yy,yy,yy,yy,yy,yy,yy,yy,yy,yy,yy,yy,yy,yy,yy,yy,yy,nn,nn,nn,nn,nn,nn,nn,nn,nn,nn,nn] S rfl (p_move rfl) (wanted_none rfl) rfl rfl (by kernel_rfl) (fun _ _ _ h => h) ?_; clear S a; intro a S
          refine d_off (i := 32) #[yy,yy,yy,yy,yy,yy,yy,yy,yy,yy,yy,yy,yy,yy,yy,yy,yy,yy,yy,yy,yy,yy,yy,yy,yy,yy,yy,yy,yy,yy,yy,yy,yy,nn,nn,nn,nn,nn,nn,nn,nn,nn,nn] S rfl (wanted_off S rfl rfl rfl rfl rfl) rfl rfl (by kernel_rfl) (fun _ _ _ h => h) ?_; clear S a; intro a S
          refine d_off (i := 33) #[yy,yy,yy,yy,yy,yy,yy,yy,yy,yy,yy,yy,yy,yy,yy,yy,yy,yy,yy,yy,yy,yy,yy,yy,yy,yy,yy,yy,yy,yy,yy,yy,yy,yy,nn,nn,nn,nn,nn,nn,nn,nn,nn] S rfl (wanted_off S rfl rfl rfl rfl rfl) rfl rfl (by kernel_rfl) (fun _ _ _ h => h) ?_; clear S a; intro a S
          refine d_off (i := 34) #[yy,yy,yy,yy,yy,yy,yy,yy,yy,yy,yy,yy,yy,yy,yy,yy,yy,yy,yy,yy,yy,yy,yy,yy,yy,yy,yy,yy,yy,yy,yy,yy,yy,yy,yy,nn,nn,nn,nn,nn,nn,nn,nn] S rfl (wanted_off S rfl rfl rfl rfl rfl) rfl rfl (by kernel_rfl) (fun _ _ _ h => h) ?_; clear S a; intro a S
          refine d_off (i := 35) #[yy,yy,yy,yy,yy,yy,yy,yy,yy,yy,yy,yy,yy,yy,yy,yy,yy,yy,yy,yy,yy,yy,yy,yy,yy,yy,yy,yy,yy,yy,yy,yy,yy,yy,yy,yy,nn,nn,nn,nn,nn,nn,nn] S rfl (wanted_off S rfl rfl rfl rfl rfl) rfl rfl (by kernel_rfl) (fun _ _ _ h => h) ?_; clear S a; intro a S
          refine d_pure (i := 36) #[yy,yy,yy,yy,yy,yy,yy,yy,yy,yy,yy,yy,yy,yy,yy,yy,yy,yy,yy,yy,yy,yy,yy,yy,yy,yy,yy,yy,yy,yy,yy,yy,yy,yy,yy,yy,yy,nn,nn,nn,nn,nn,nn] S rfl (p_pick_t rfl rfl rfl) (wanted_none rfl) rfl rfl (by kernel_rfl) (fun _ _ _ h => h) ?_; clear S a; intro a S
          refine d_pure (i := 37) #[yy,yy,yy,yy,yy,yy,yy,yy,yy,yy,yy,yy,yy,yy,yy,yy,yy,yy,yy,yy,yy,yy,yy,yy,yy,yy,yy,yy,yy,yy,yy,yy,yy,yy,yy,yy,yy,yy,nn,nn,nn,nn,nn] S rfl (p_move rfl) (wanted_none rfl) rfl rfl (by kernel_rfl) (fun _ _ _ h => h) ?_; clear S a; intro a S
          refine d_off (i := 38) #[yy,yy,yy,yy,yy,yy,yy,yy,yy,yy,yy,yy,yy,yy,yy,yy,yy,yy,yy,yy,yy,yy,yy,yy,yy,yy,yy,yy,yy,yy,yy,yy,yy,yy,yy,yy,yy,yy,yy,nn,nn,nn,nn] S rfl (wanted_off S rfl rfl rfl rfl rfl) rfl rfl (by kernel_rfl) (fun _ _ _ h => h) ?_; clear S a; intro a S
          refine d_off (i := 39) #[yy,yy,yy,yy,yy,yy,yy,yy,yy,yy,yy,yy,yy,yy,yy,yy,yy,yy,yy,yy,yy,yy,yy,yy,yy,yy,yy,yy,yy,yy,yy,yy,yy,yy,yy,yy,yy,yy,yy,yy,nn,nn,nn] S rfl (wanted_off S rfl rfl rfl rfl rfl) rfl rfl (by kernel_rfl) (fun _ _ _ h => h) ?_; clear S a; intro a S
          refine d_off (i := 40) #[yy,yy,yy,yy,yy,yy,yy,yy,yy,yy,yy,yy,yy,yy,yy,yy,yy,yy,yy,yy,yy,yy,yy,yy,yy,yy,yy,yy,yy,yy,yy,yy,yy,yy,yy,yy,yy,yy,yy,yy,yy,nn,nn] S rfl (wanted_off S rfl rfl rfl rfl rfl) rfl rfl (by kernel_rfl) (fun _ _ _ h => h) ?_; clear S a; intro a S
          refine d_off (i := 41) #[yy,yy,yy,yy,yy,yy,yy,yy,yy,yy,yy,yy,yy,yy,yy,yy,yy,yy,yy,yy,yy,yy,yy,yy,yy,yy,yy,yy,yy,yy,yy,yy,yy,yy,yy,yy,yy,yy,yy,yy,yy,yy,nn] S rfl (wanted_off S rfl rfl rfl rfl rfl) rfl rfl (by kernel_rfl) (fun _ _ _ h => h) ?_; clear S a; intro a S
          refine d_pure (i := 42) #[yy,yy,yy,yy,yy,yy,yy,yy,yy,yy,yy,yy,yy,yy,yy,yy,yy,yy,yy,yy,yy,yy,yy,yy,yy,yy,yy,yy,yy,yy,yy,yy,yy,yy,yy,yy,yy,yy,yy,yy,yy,yy,yy] S rfl (p_pick_t rfl rfl rfl) (wanted_none rfl) rfl rfl (by kernel_rfl) (fun _ _ _ h => h) ?_; clear S a; intro a S
          refine d_done (by kernel_rfl) ?_
          refine e_then ?_
          refine c_cond (b := true) S rfl (fun _ => ?_) (fun h => by cases h)
          refine wp_seq ?_
          refine c_region ?_
          refine l_pure S (p_assign rfl) rfl rfl rfl ?_; clear S a; intro a S
          refine l_nil ?_
          refine e_then ?_
          refine wp_ret ?_
          refine e_then_ret ?_
          refine e_in_ret ?_
          refine e_in_ret ?_
          refine e_then_ret ?_
          refine e_in_ret ?_
          refine e_then_ret ?_
          have hbad : up.V s i = false := by
           have e1 : Lib.checkN (s.size - i) (HHW.bt s ((i + 1 : Nat) : Int)).toNat (HHW.bt s ((i + 2 : Nat) : Int)).toNat (HHW.bt s ((i + 3 : Nat) : Int)).toNat (f % 8) (Lib.accLo (f / 16)) (Lib.accHi (f / 16)) = none := by
            unfold Lib.checkN; repeat' split
            all_goals first | rfl | (exfalso; omega)
           rw [hlead, e1]
          exact r_ret1 S rfl rfl ⟨by rw [hV, hbad], H.below⟩
         ·
          have c137 := bc137
          have c137 := of_decide_eq_false c137
          refine d_pure (i := 26) #[yy,yy,yy,yy,yy,yy,yy,yy,yy,yy,yy,yy,yy,yy,yy,yy,yy,yy,yy,yy,yy,yy,yy,yy,yy,yy,yy,nn,nn,nn,nn,nn,nn,nn,nn,nn,nn,nn,nn,nn,nn,nn,nn] S rfl (p_move rfl) (wanted_on S rfl rfl rfl rfl bc137) rfl rfl (by kernel_rfl) (fun _ _ _ h => h) ?_; clear S a; intro a S
          refine d_pure (i := 27) #[yy,yy,yy,yy,yy,yy,yy,yy,yy,yy,yy,yy,yy,yy,yy,yy,yy,yy,yy,yy,yy,yy,yy,yy,yy,yy,yy,yy,nn,nn,nn,nn,nn,nn,nn,nn,nn,nn,nn,nn,nn,nn,nn] S rfl (p_indexAddr rfl rfl (fun w => ia_slice Tryd.underlying32 sz5 (by omega) (by omega))) (wanted_on S rfl rfl rfl rfl bc137) rfl rfl (by kernel_rfl) (fun _ _ _ h => h) ?_; clear S a; intro a S
          refine d_read (i := 28) #[yy,yy,yy,yy,yy,yy,yy,yy,yy,yy,yy,yy,yy,yy,yy,yy,yy,yy,yy,yy,yy,yy,yy,yy,yy,yy,yy,yy,yy,nn,nn,nn,nn,nn,nn,nn,nn,nn,nn,nn,nn,nn,nn] S H rfl (r_byte (l := ((ints s).drop i)) (i := 2) (v := HHW.bt s ((i + 2 : Nat) : Int)) rfl (by omega) ag5 hRo4 rfl (int_at s rfl (by omega))) (wanted_on S rfl rfl rfl rfl bc137) rfl rfl (by kernel_rfl) (fun _ _ _ h => h) ?_; clear S a; intro a S
          refine d_pure (i := 29) #[yy,yy,yy,yy,yy,yy,yy,yy,yy,yy,yy,yy,yy,yy,yy,yy,yy,yy,yy,yy,yy,yy,yy,yy,yy,yy,yy,yy,yy,yy,nn,nn,nn,nn,nn,nn,nn,nn,nn,nn,nn,nn,nn] S rfl (p_lss rfl rfl) (wanted_on S rfl rfl rfl rfl bc137) rfl rfl (by kernel_rfl) (fun _ _ _ h => h) ?_; clear S a; intro a S
          refine d_pure (i := 30) #[yy,yy,yy,yy,yy,yy,yy,yy,yy,yy,yy,yy,yy,yy,yy,yy,yy,yy,yy,yy,yy,yy,yy,yy,yy,yy,yy,yy,yy,yy,yy,nn,nn,nn,nn,nn,nn,nn,nn,nn,nn,nn,nn] S rfl (p_pick_f rfl bc137 rfl) (wanted_none rfl) rfl rfl (by kernel_rfl) (fun _ _ _ h => h) ?_; clear S a; intro a S
          refine d_pure (i := 31) #[yy,yy,yy,yy,yy,yy,yy,yy,yy,yy,yy,yy,yy,yy,yy,yy,yy,yy,yy,yy,yy,yy,yy,yy,yy,yy,yy,yy,yy,yy,yy,yy,nn,nn,nn,nn,nn,nn,nn,nn,nn,nn,nn] S rfl (p_move rfl) (wanted_none rfl) rfl rfl (by kernel_rfl) (fun _ _ _ h => h) ?_; clear S a; intro a S
          refine d_split (S.of 174 rfl) (fun bc144 => ?_) (fun bc144 => ?_)
          ·
           have c144 := bc144
           have c144 := of_decide_eq_true c144
           refine d_off (i := 32) #[yy,yy,yy,yy,yy,yy,yy,yy,yy,yy,yy,yy,yy,yy,yy,yy,yy,yy,yy,yy,yy,yy,yy,yy,yy,yy,yy,yy,yy,yy,yy,yy,yy,nn,nn,nn,nn,nn,nn,nn,nn,nn,nn] S rfl (wanted_off S rfl rfl rfl rfl bc144) rfl rfl (by kernel_rfl) (fun _ _ _ h => h) ?_; clear S a; intro a S
           refine d_off (i := 33) #[yy,yy,yy,yy,yy,yy,yy,yy,yy,yy,yy,yy,yy,yy,yy,yy,yy,yy,yy,yy,yy,yy,yy,yy,yy,yy,yy,yy,yy,yy,yy,yy,yy,yy,nn,nn,nn,nn,nn,nn,nn,nn,nn] S rfl (wanted_off S rfl rfl rfl rfl bc144) rfl rfl (by kernel_rfl) (fun _ _ _ h => h) ?_; clear S a; intro a S
           refine d_off (i := 34) #[yy,yy,yy,yy,yy,yy,yy,yy,yy,yy,yy,yy,yy,yy,yy,yy,yy,yy,yy,yy,yy,yy,yy,yy,yy,yy,yy,yy,yy,yy,yy,yy,yy,yy,yy,nn,nn,nn,nn,nn,nn,nn,nn] S rfl (wanted_off S rfl rfl rfl rfl bc144) rfl rfl (by kernel_rfl) (fun _ _ _ h => h) ?_; clear S a; intro a S
           refine d_off (i := 35) #[yy,yy,yy,yy,yy,yy,yy,yy,yy,yy,yy,yy,yy,yy,yy,yy,yy,yy,yy,yy,yy,yy,yy,yy,yy,yy,yy,yy,yy,yy,yy,yy,yy,yy,yy,yy,nn,nn,nn,nn,nn,nn,nn] S rfl (wanted_off S rfl rfl rfl rfl bc144) rfl rfl (by kernel_rfl) (fun _ _ _ h => h) ?_; clear S a; intro a S
           refine d_pure (i := 36) #[yy,yy,yy,yy,yy,yy,yy,yy,yy,yy,yy,yy,yy,yy,yy,yy,yy,yy,yy,yy,yy,yy,yy,yy,yy,yy,yy,yy,yy,yy,yy,yy,yy,yy,yy,yy,yy,nn,nn,nn,nn,nn,nn] S rfl (p_pick_t rfl bc144 rfl) (wanted_none rfl) rfl rfl (by kernel_rfl) (fun _ _ _ h => h) ?_; clear S a; intro a S
           refine d_pure (i := 37) #[yy,yy,yy,yy,yy,yy,yy,yy,yy,yy,yy,yy,yy,yy,yy,yy,yy,yy,yy,yy,yy,yy,yy,yy,yy,yy,yy,yy,yy,yy,yy,yy,yy,yy,yy,yy,yy,yy,nn,nn,nn,nn,nn] S rfl (p_move rfl) (wanted_none rfl) rfl rfl (by kernel_rfl) (fun _ _ _ h => h) ?_; clear S a; intro a S
           refine d_off (i := 38) #[yy,yy,yy,yy,yy,yy,yy,yy,yy,yy,yy,yy,yy,yy,yy,yy,yy,yy,yy,yy,yy,yy,yy,yy,yy,yy,yy,yy,yy,yy,yy,yy,yy,yy,yy,yy,yy,yy,yy,nn,nn,nn,nn] S rfl (wanted_off S rfl rfl rfl rfl rfl) rfl rfl (by kernel_rfl) (fun _ _ _ h => h) ?_; clear S a; intro a S
           refine d_off (i := 39) #[yy,yy,yy,yy,yy,yy,yy,yy,yy,yy,yy,yy,yy,yy,yy,yy,yy,yy,yy,yy,yy,yy,yy,yy,yy,yy,yy,yy,yy,yy,yy,yy,yy,yy,yy,yy,yy,yy,yy,yy,nn,nn,nn] S rfl (wanted_off S rfl rfl rfl rfl rfl) rfl rfl (by kernel_rfl) (fun _ _ _ h => h) ?_; clear S a; intro a S
           refine d_off (i := 40) #[yy,yy,yy,yy,yy,yy,yy,yy,yy,yy,yy,yy,yy,yy,yy,yy,yy,yy,yy,yy,yy,yy,yy,yy,yy,yy,yy,yy,yy,yy,yy,yy,yy,yy,yy,yy,yy,yy,yy,yy,yy,nn,nn] S rfl (wanted_off S rfl rfl rfl rfl rfl) rfl rfl (by kernel_rfl) (fun _ _ _ h => h) ?_; clear S a; intro a S
           refine d_off (i := 41) #[yy,yy,yy,yy,yy,yy,yy,yy,yy,yy,yy,yy,yy,yy,yy,yy,yy,yy,yy,yy,yy,yy,yy,yy,yy,yy,yy,yy,yy,yy,yy,yy,yy,yy,yy,yy,yy,yy,yy,yy,yy,yy,nn] S rfl (wanted_off S rfl rfl rfl rfl rfl) rfl rfl (by kernel_rfl) (fun _ _ _ h => h) ?_; clear S a; intro a S
           refine d_pure (i := 42) #[yy,yy,yy,yy,yy,yy,yy,yy,yy,yy,yy,yy,yy,yy,yy,yy,yy,yy,yy,yy,yy,yy,yy,yy,yy,yy,yy,yy,yy,yy,yy,yy,yy,yy,yy,yy,yy,yy,yy,yy,yy,yy,yy] S rfl (p_pick_t rfl rfl rfl) (wanted_none rfl) rfl rfl (by kernel_rfl) (fun _ _ _ h => h) ?_; clear S a; intro a S
           refine d_done (by kernel_rfl) ?_
           refine e_then ?_
           refine c_cond (b := true) S rfl (fun _ => ?_) (fun h => by cases h)
           refine wp_seq ?_
           refine c_region ?_
           refine l_pure S (p_assign rfl) rfl rfl rfl ?_; clear S a; intro a S
           refine l_nil ?_
           refine e_then ?_
           refine wp_ret ?_
           refine e_then_ret ?_
           refine e_in_ret ?_
           refine e_in_ret ?_
           refine e_then_ret ?_
           refine e_in_ret ?_
           refine e_then_ret ?_
           have hbad : up.V s i = false := by
            have e1 : Lib.checkN (s.size - i) (HHW.bt s ((i + 1 : Nat) : Int)).toNat (HHW.bt s ((i + 2 : Nat) : Int)).toNat (HHW.bt s ((i + 3 : Nat) : Int)).toNat (f % 8) (Lib.accLo (f / 16)) (Lib.accHi (f / 16)) = none := by
             unfold Lib.checkN; repeat' split
             all_goals first | rfl | (exfalso; omega)
            rw [hlead, e1]
           exact r_ret1 S rfl rfl ⟨by rw [hV, hbad], H.below⟩
          ·
           have c144 := bc144
           have c144 := of_decide_eq_false c144
           refine d_pure (i := 32) #[yy,yy,yy,yy,yy,yy,yy,yy,yy,yy,yy,yy,yy,yy,yy,yy,yy,yy,yy,yy,yy,yy,yy,yy,yy,yy,yy,yy,yy,yy,yy,yy,yy,nn,nn,nn,nn,nn,nn,nn,nn,nn,nn] S rfl (p_move rfl) (wanted_on S rfl rfl rfl rfl bc144) rfl rfl (by kernel_rfl) (fun _ _ _ h => h) ?_; clear S a; intro a S
           refine d_pure (i := 33) #[yy,yy,yy,yy,yy,yy,yy,yy,yy,yy,yy,yy,yy,yy,yy,yy,yy,yy,yy,yy,yy,yy,yy,yy,yy,yy,yy,yy,yy,yy,yy,yy,yy,yy,nn,nn,nn,nn,nn,nn,nn,nn,nn] S rfl (p_indexAddr rfl rfl (fun w => ia_slice Tryd.underlying32 sz5 (by omega) (by omega))) (wanted_on S rfl rfl rfl rfl bc144) rfl rfl (by kernel_rfl) (fun _ _ _ h => h) ?_; clear S a; intro a S
           refine d_read (i := 34) #[yy,yy,yy,yy,yy,yy,yy,yy,yy,yy,yy,yy,yy,yy,yy,yy,yy,yy,yy,yy,yy,yy,yy,yy,yy,yy,yy,yy,yy,yy,yy,yy,yy,yy,yy,nn,nn,nn,nn,nn,nn,nn,nn] S H rfl (r_byte (l := ((ints s).drop i)) (i := 3) (v := HHW.bt s ((i + 3 : Nat) : Int)) rfl (by omega) ag5 hRo4 rfl (int_at s rfl (by omega))) (wanted_on S rfl rfl rfl rfl bc144) rfl rfl (by kernel_rfl) (fun _ _ _ h => h) ?_; clear S a; intro a S
           refine d_pure (i := 35) #[yy,yy,yy,yy,yy,yy,yy,yy,yy,yy,yy,yy,yy,yy,yy,yy,yy,yy,yy,yy,yy,yy,yy,yy,yy,yy,yy,yy,yy,yy,yy,yy,yy,yy,yy,yy,nn,nn,nn,nn,nn,nn,nn] S rfl (p_lss rfl rfl) (wanted_on S rfl rfl rfl rfl bc144) rfl rfl (by kernel_rfl) (fun _ _ _ h => h) ?_; clear S a; intro a S
           refine d_pure (i := 36) #[yy,yy,yy,yy,yy,yy,yy,yy,yy,yy,yy,yy,yy,yy,yy,yy,yy,yy,yy,yy,yy,yy,yy,yy,yy,yy,yy,yy,yy,yy,yy,yy,yy,yy,yy,yy,yy,nn,nn,nn,nn,nn,nn] S rfl (p_pick_f rfl bc144 rfl) (wanted_none rfl) rfl rfl (by kernel_rfl) (fun _ _ _ h => h) ?_; clear S a; intro a S
           refine d_pure (i := 37) #[yy,yy,yy,yy,yy,yy,yy,yy,yy,yy,yy,yy,yy,yy,yy,yy,yy,yy,yy,yy,yy,yy,yy,yy,yy,yy,yy,yy,yy,yy,yy,yy,yy,yy,yy,yy,yy,yy,nn,nn,nn,nn,nn] S rfl (p_move rfl) (wanted_none rfl) rfl rfl (by kernel_rfl) (fun _ _ _ h => h) ?_; clear S a; intro a S
           refine d_split (S.of 180 rfl) (fun bc150 => ?_) (fun bc150 => ?_)
           ·
            have c150 := bc150
            have c150 := of_decide_eq_true c150
            refine d_off (i := 38) #[yy,yy,yy,yy,yy,yy,yy,yy,yy,yy,yy,yy,yy,yy,yy,yy,yy,yy,yy,yy,yy,yy,yy,yy,yy,yy,yy,yy,yy,yy,yy,yy,yy,yy,yy,yy,yy,yy,yy,nn,nn,nn,nn] S rfl (wanted_off S rfl rfl rfl rfl bc150) rfl rfl (by kernel_rfl) (fun _ _ _ h => h) ?_; clear S a; intro a S
            refine d_off (i := 39) #[yy,yy,yy,yy,yy,yy,yy,yy,yy,yy,yy,yy,yy,yy,yy,yy,yy,yy,yy,yy,yy,yy,yy,yy,yy,yy,yy,yy,yy,yy,yy,yy,yy,yy,yy,yy,yy,yy,yy,yy,nn,nn,nn] S rfl (wanted_off S rfl rfl rfl rfl bc150) rfl rfl (by kernel_rfl) (fun _ _ _ h => h) ?_; clear S a; intro a S
            refine d_off (i := 40) #[yy,yy,yy,yy,yy,yy,yy,yy,yy,yy,yy,yy,yy,yy,yy,yy,yy,yy,yy,yy,yy,yy,yy,yy,yy,yy,yy,yy,yy,yy,yy,yy,yy,yy,yy,yy,yy,yy,yy,yy,yy,nn,nn] S rfl (wanted_off S rfl rfl rfl rfl bc150) rfl rfl (by kernel_rfl) (fun _ _ _ h => h) ?_; clear S a; intro a S
            refine d_off (i := 41) #[yy,yy,yy,yy,yy,yy,yy,yy,yy,yy,yy,yy,yy,yy,yy,yy,yy,yy,yy,yy,yy,yy,yy,yy,yy,yy,yy,yy,yy,yy,yy,yy,yy,yy,yy,yy,yy,yy,yy,yy,yy,yy,nn] S rfl (wanted_off S rfl rfl rfl rfl bc150) rfl rfl (by kernel_rfl) (fun _ _ _ h => h) ?_; clear S a; intro a S
            refine d_pure (i := 42) #[yy,yy,yy,yy,yy,yy,yy,yy,yy,yy,yy,yy,yy,yy,yy,yy,yy,yy,yy,yy,yy,yy,yy,yy,yy,yy,yy,yy,yy,yy,yy,yy,yy,yy,yy,yy,yy,yy,yy,yy,yy,yy,yy] S rfl (p_pick_t rfl bc150 rfl) (wanted_none rfl) rfl rfl (by kernel_rfl) (fun _ _ _ h => h) ?_; clear S a; intro a S
            refine d_done (by kernel_rfl) ?_
            refine e_then ?_
            refine c_cond (b := true) S rfl (fun _ => ?_) (fun h => by cases h)
            refine wp_seq ?_
            refine c_region ?_
            refine l_pure S (p_assign rfl) rfl rfl rfl ?_; clear S a; intro a S
            refine l_nil ?_
            refine e_then ?_
            refine wp_ret ?_
            refine e_then_ret ?_
            refine e_in_ret ?_
            refine e_in_ret ?_
            refine e_then_ret ?_
            refine e_in_ret ?_
            refine e_then_ret ?_
            have hbad : up.V s i = false := by
             have e1 : Lib.checkN (s.size - i) (HHW.bt s ((i + 1 : Nat) : Int)).toNat (HHW.bt s ((i + 2 : Nat) : Int)).toNat (HHW.bt s ((i + 3 : Nat) : Int)).toNat (f % 8) (Lib.accLo (f / 16)) (Lib.accHi (f / 16)) = none := by
              unfold Lib.checkN; repeat' split
              all_goals first | rfl | (exfalso; omega)
             rw [hlead, e1]
            exact r_ret1 S rfl rfl ⟨by rw [hV, hbad], H.below⟩
           ·
            have c150 := bc150
            have c150 := of_decide_eq_false c150
            refine d_pure (i := 38) #[yy,yy,yy,yy,yy,yy,yy,yy,yy,yy,yy,yy,yy,yy,yy,yy,yy,yy,yy,yy,yy,yy,yy,yy,yy,yy,yy,yy,yy,yy,yy,yy,yy,yy,yy,yy,yy,yy,yy,nn,nn,nn,nn] S rfl (p_move rfl) (wanted_on S rfl rfl rfl rfl bc150) rfl rfl (by kernel_rfl) (fun _ _ _ h => h) ?_; clear S a; intro a S
            refine d_pure (i := 39) #[yy,yy,yy,yy,yy,yy,yy,yy,yy,yy,yy,yy,yy,yy,yy,yy,yy,yy,yy,yy,yy,yy,yy,yy,yy,yy,yy,yy,yy,yy,yy,yy,yy,yy,yy,yy,yy,yy,yy,yy,nn,nn,nn] S rfl (p_indexAddr rfl rfl (fun w => ia_slice Tryd.underlying32 sz5 (by omega) (by omega))) (wanted_on S rfl rfl rfl rfl bc150) rfl rfl (by kernel_rfl) (fun _ _ _ h => h) ?_; clear S a; intro a S
            refine d_read (i := 40) #[yy,yy,yy,yy,yy,yy,yy,yy,yy,yy,yy,yy,yy,yy,yy,yy,yy,yy,yy,yy,yy,yy,yy,yy,yy,yy,yy,yy,yy,yy,yy,yy,yy,yy,yy,yy,yy,yy,yy,yy,yy,nn,nn] S H rfl (r_byte (l := ((ints s).drop i)) (i := 3) (v := HHW.bt s ((i + 3 : Nat) : Int)) rfl (by omega) ag5 hRo4 rfl (int_at s rfl (by omega))) (wanted_on S rfl rfl rfl rfl bc150) rfl rfl (by kernel_rfl) (fun _ _ _ h => h) ?_; clear S a; intro a S
            refine d_pure (i := 41) #[yy,yy,yy,yy,yy,yy,yy,yy,yy,yy,yy,yy,yy,yy,yy,yy,yy,yy,yy,yy,yy,yy,yy,yy,yy,yy,yy,yy,yy,yy,yy,yy,yy,yy,yy,yy,yy,yy,yy,yy,yy,yy,nn] S rfl (p_lss rfl rfl) (wanted_on S rfl rfl rfl rfl bc150) rfl rfl (by kernel_rfl) (fun _ _ _ h => h) ?_; clear S a; intro a S
            refine d_pure (i := 42) #[yy,yy,yy,yy,yy,yy,yy,yy,yy,yy,yy,yy,yy,yy,yy,yy,yy,yy,yy,yy,yy,yy,yy,yy,yy,yy,yy,yy,yy,yy,yy,yy,yy,yy,yy,yy,yy,yy,yy,yy,yy,yy,yy] S rfl (p_pick_f rfl bc150 rfl) (wanted_none rfl) rfl rfl (by kernel_rfl) (fun _ _ _ h => h) ?_; clear S a; intro a S
            refine d_done (by kernel_rfl) ?_
            refine e_then ?_
            refine c_cond S rfl (fun bc155 => ?_) (fun bc155 => ?_)
            ·
             have c155 := bc155
             have c155 := of_decide_eq_true c155
             refine wp_seq ?_
             refine c_region ?_
             refine l_pure S (p_assign rfl) rfl rfl rfl ?_; clear S a; intro a S
             refine l_nil ?_
             refine e_then ?_
             refine wp_ret ?_
             refine e_then_ret ?_
             refine e_in_ret ?_
             refine e_in_ret ?_
             refine e_then_ret ?_
             refine e_in_ret ?_
             refine e_then_ret ?_
             have hbad : up.V s i = false := by
              have e1 : Lib.checkN (s.size - i) (HHW.bt s ((i + 1 : Nat) : Int)).toNat (HHW.bt s ((i + 2 : Nat) : Int)).toNat (HHW.bt s ((i + 3 : Nat) : Int)).toNat (f % 8) (Lib.accLo (f / 16)) (Lib.accHi (f / 16)) = none := by
               unfold Lib.checkN; repeat' split
               all_goals first | rfl | (exfalso; omega)
              rw [hlead, e1]
             exact r_ret1 S rfl rfl ⟨by rw [hV, hbad], H.below⟩
            ·
             have c155 := bc155
             have c155 := of_decide_eq_false c155
             refine wp_skip ?_
             refine e_then ?_
             refine c_region ?_
             refine l_pure S (p_move rfl) rfl rfl rfl ?_; clear S a; intro a S
             have hVk : up.V s 0 = up.V s (i + 4) := hV.trans (hlead.trans (by unfold Lib.checkN; simp only [show f % 8 = 4 by omega, if_true, if_false, Nat.reduceEqDiff]; rw [if_neg (by omega)]))
             have hsb157 := hq.drop (m := 4) (by omega)
             refine l_pure S (p_slice rfl (o_some rfl) (fun _ _ => o_none) (fun _ _ => o_none) (fun w => sl_sb_lo (m := 4) Tryd.underlying32 sz5 rfl (by omega))) rfl rfl rfl ?_; clear S a; intro a S
             rw [List.drop_drop] at S hsb157
             revert S; revert hsb157
             generalize cutAt _ _ 4 1 = Ab157
             generalize _ - 4 = cb157
             intro hsb157 S
             have hln158 : ((ints s).drop (i + 4)).length = s.size - (i + 4) := by rw [List.length_drop, ints_len]
             refine l_pure S (p_assign rfl) rfl rfl rfl ?_; clear S a; intro a S
             refine l_nil ?_
             refine e_in 4 ?_
             refine e_in 1 ?_
             refine e_then ?_
             exact ⟨⟨(i + 4), _, _⟩, ⟨S.only ⟨rfl, trivial⟩, H.tail, ⟨by omega, hVk, hsb157⟩⟩, (show s.size - (i + 4) < s.size - i from by omega)⟩
     ·
      have c108 := bc108
      have c108 := ne_of_beq_false c108
      refine wp_seq ?_
      refine c_region ?_
      refine l_pure S (p_assign rfl) rfl rfl rfl ?_; clear S a; intro a S
      refine l_nil ?_
      refine e_then ?_
      refine wp_ret ?_
      refine e_in_ret ?_
      refine e_in_ret ?_
      refine e_then_ret ?_
      refine e_in_ret ?_
      refine e_then_ret ?_
      have hbad : up.V s i = false := by
       have e1 : Lib.checkN (s.size - i) (HHW.bt s ((i + 1 : Nat) : Int)).toNat (HHW.bt s ((i + 2 : Nat) : Int)).toNat (HHW.bt s ((i + 3 : Nat) : Int)).toNat (f % 8) (Lib.accLo (f / 16)) (Lib.accHi (f / 16)) = none := by
        unfold Lib.checkN; repeat' split
        all_goals first | rfl | (exfalso; omega)
       rw [hlead, e1]
      exact r_ret1 S rfl rfl ⟨by rw [hV, hbad], H.below⟩
 ·
  have c3 := bc3
  have c3 := of_decide_eq_false c3
  refine wp_exit ?_
  refine e_then_exit ?_
  refine e_then_exit ?_
  refine e_in_exit ?_
  refine e_then ?_
  refine wp_seq ?_
  refine c_region ?_
  refine l_pure S (p_assign rfl) rfl rfl rfl ?_; clear S a; intro a S
  refine l_nil ?_
  refine e_then ?_
  refine wp_ret ?_
  exact r_ret1 S rfl rfl ⟨by rw [hV, up.V_end s i (by omega)], H.below⟩
end gv
end Go.Proofs.YtbahngfpadjbhaaDoor.dec
