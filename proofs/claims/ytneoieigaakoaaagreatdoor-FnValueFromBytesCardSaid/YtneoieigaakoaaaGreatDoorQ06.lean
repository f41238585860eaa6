/- The proof of laws.FnValueFromBytes: a value of a kind is read from any bytes as the rules of its kind say, or refused; what is too great is told so. Conditions: those of the given row (the listed variables read as laid). -/
import Derived.Test.YtneoieigaakoaaaGreatDoorQ05
import Derived.Test.YtneoieigaakoaaaGreatDoorProg
import Derived.Test.YtneoieigaakoaaaGreatDoorQ02
import Derived.Test.YtneoieigaakoaaaGreatDoorQ01
set_option linter.unusedVariables false
set_option linter.unusedSimpArgs false
section
namespace Go.Proofs.YtneoieigaakoaaaGreatDoor.pf
open Go.Proofs.YtneoieigaakoaaaGreatDoor.fx
open Go.RowKit Go.Proofs.HHW Go.Proofs.YtneoieigaakoaaaGreatDoorW.PrintWords
namespace vr
theorem fa52_2 (w : World) (g o : Nat) : (Instr.fieldAt 52 (.pointer (some ⟨g, o, none⟩)) 2).run Tryz.prog w = .ok (.pointer (some ⟨g, o + 2, none⟩)) w := by kernel_rfl
theorem sz81 : szB Tryz.prog 81 = some 1 := by kernel_rfl
theorem bld81_0 (x0_0 : ByteArray) : Tryz.prog.built 81 [(0, (.string x0_0))] = some #[.string x0_0] := by kernel_rfl
theorem mk79 (w : World) (p : Option Addr) : (Instr.makeInterface 79 (.pointer p)).run Tryz.prog w = .ok (.iface 79 (.pointer p)) w := by kernel_rfl
structure EW (B : Nat) (wb : World) (as_ ar ao ai : Addr) : Prop where
 s : wb.cell? ⟨6, 0, none⟩ = some (.iface 79 (.pointer (some as_))) ∧ 6 < B
 r : wb.cell? ⟨1, 0, none⟩ = some (.iface 79 (.pointer (some ar))) ∧ 1 < B
 o : wb.cell? ⟨0, 0, none⟩ = some (.iface 79 (.pointer (some ao))) ∧ 0 < B
 i : wb.cell? ⟨3, 0, none⟩ = some (.iface 79 (.pointer (some ai))) ∧ 3 < B
 hs : (∃ c t, wb.heap[as_.block]? = some (.cells c t (0, 0))) ∧ as_.block < B
 hr : (∃ c t, wb.heap[ar.block]? = some (.cells c t (0, 0))) ∧ ar.block < B
 ho : (∃ c t, wb.heap[ao.block]? = some (.cells c t (0, 0))) ∧ ao.block < B
 ne : as_ ≠ ar
def ErrR (ao : Addr) (far : Bool) (v : Value) (L : List (Nat × Obj)) : Prop := (far = true ∧ v = .iface 79 (.pointer (some ao)) ∧ L = []) ∨ (far = false ∧ ∃ g m, v = .iface 79 (.pointer (some ⟨g, 0, none⟩)) ∧ L = [(g, .cells #[.string m] 81 (0, 0))])
theorem ErrR.iface {ao : Addr} {far : Bool} {v : Value} {L : List (Nat × Obj)} (h : ErrR ao far v L) : ∃ t p, v = .iface t p := by
 rcases h with ⟨_, rfl, _⟩ | ⟨_, g, m, rfl, _⟩
 ·
  exact ⟨_, _, rfl⟩
 ·
  exact ⟨_, _, rfl⟩
theorem taN (w : World) (v : Value) : (Instr.typeAssert (.iface 49 v) 35 49 true).run Tryz.prog w = .ok (.tuple #[v, .bool true]) w := by kernel_rfl
theorem inf_es : (Tryz.prog.info? 79).map (fun i => i.comparable) = some true := by kernel_rfl
theorem errNew_ (wb w0 : World) (B : Nat) (L0 : List (Nat × Obj)) (m : ByteArray) (H : HH B wb w0 L0) : Calls Tryz.prog 26 #[.string m] w0 fun e w' => ∃ g, e = .returned (.iface 79 (.pointer (some ⟨g, 0, none⟩))) ∧ HH B wb w' ((g, .cells #[.string m] 81 (0, 0)) :: L0) := by
 refine c_enter (args := [.string m]) (k := 6) Tryz.func26 rfl rfl rfl (fun a S => ?_)
 refine wp_seq ?_
 refine c_region ?_
 refine l_mv 1 S rfl ?_; clear S a; intro a S
 refine l_nil ?_
 refine e_then ?_
 refine wp_seq ?_
 refine c_region ?_
 refine l_mv 1 S rfl ?_; clear S a; intro a S
 refine l_pure S (p_bld (ps := [(0, .tmp 3)]) rfl (bld81_0 _)) rfl rfl rfl ?_; clear S a; intro a S
 refine l_box (cs := #[.string m]) S H rfl rfl (fun w => bx) rfl rfl rfl ?_; clear S a H; intro g1 w a H S
 refine l_pure S (p_iface rfl (fun w => mk79 w _)) rfl rfl rfl ?_; clear S a; intro a S
 refine l_mv 1 S rfl ?_; clear S a; intro a S
 refine l_nil ?_
 refine e_then ?_
 refine wp_ret ?_
 exact r_ret1 S rfl rfl ⟨_, rfl, H⟩
theorem maybe1_ (wb w0 : World) (B : Nat) (L0 : List (Nat × Obj)) (as_ ar ao ai : Addr) (hE : EW B wb as_ ar ao ai) (n : Nat) (fn s m : ByteArray) (H : HH B wb w0 ((n, .cells #[.string fn, .string s, .iface 79 (.pointer (some ar))] 52 (0, 0)) :: L0)) : Calls Tryz.prog 21 #[.iface 49 (.pointer (some ⟨n, 0, none⟩)), .string m] w0 fun e w' => e = .returned (.iface 79 (.pointer (some ao))) ∧ HH B wb w' L0 := by
 refine c_enter (args := [.iface 49 (.pointer (some ⟨n, 0, none⟩)), .string m]) (k := 22) Tryz.func21 rfl rfl rfl (fun a S => ?_)
 refine wp_seq ?_
 refine c_region ?_
 refine l_mv 1 S rfl ?_; clear S a; intro a S
 refine l_nil ?_
 refine e_then ?_
 refine wp_seq ?_
 refine wp_seq ?_
 refine c_region ?_
 refine l_mv 1 S rfl ?_; clear S a; intro a S
 refine l_pure S (p_ta rfl (fun w => taN w _)) rfl rfl rfl ?_; clear S a; intro a S
 refine l_mv 5 S rfl ?_; clear S a; intro a S
 refine l_nil ?_
 refine e_then ?_
 refine wp_seq ?_
 refine d_start (id := 2) [] 9 #[false, false, false, false, false, false, false, false, false] H rfl rfl rfl (fun w H => ?_)
 refine d_mv [0, 1] #[true, true, false, false, false, false, false, false, false] S rfl (by kernel_rfl) (fun _ _ _ _ _ h => h) ?_; clear S a; intro a S
 refine d_pure (i := 2) #[true, true, true, false, false, false, false, false, false] S rfl (p_move rfl) (wanted_on S rfl rfl rfl rfl rfl) rfl rfl (by kernel_rfl) (fun _ _ _ h => h) ?_; clear S a; intro a S
 refine d_pure (i := 3) #[true, true, true, true, false, false, false, false, false] S rfl (p_nilCheck rfl) (wanted_on S rfl rfl rfl rfl rfl) rfl rfl (by kernel_rfl) (fun _ _ _ h => h) ?_; clear S a; intro a S
 refine d_pure (i := 4) #[true, true, true, true, true, false, false, false, false] S rfl (p_fieldAddr rfl (fun w => fa52_2 w _ _)) (wanted_on S rfl rfl rfl rfl rfl) rfl rfl (by kernel_rfl) (fun _ _ _ h => h) ?_; clear S a; intro a S
 refine d_read (i := 5) #[true, true, true, true, true, true, false, false, false] S H rfl (r_load rfl List.mem_cons_self rfl (fun w hc => ld1 ag35 hc)) (wanted_on S rfl rfl rfl rfl rfl) rfl rfl (by kernel_rfl) (fun _ _ _ h => h) ?_; clear S a; intro a S
 refine d_read (i := 6) #[true, true, true, true, true, true, true, false, false] S H rfl (r_loadG rfl hE.r.1 hE.r.2 ag35) (wanted_on S rfl rfl rfl rfl rfl) rfl rfl (by kernel_rfl) (fun _ _ _ h => h) ?_; clear S a; intro a S
 refine d_pure (i := 7) #[true, true, true, true, true, true, true, true, false] S rfl (p_ifsameE mi35 inf_es Tryz.underlying79 (by rw [sz81]; rfl) rfl rfl) (wanted_on S rfl rfl rfl rfl rfl) rfl rfl (by kernel_rfl) (fun _ _ _ h => h) ?_; clear S a; intro a S
 refine d_pure (i := 8) #[true, true, true, true, true, true, true, true, true] S rfl (p_pick_t rfl rfl rfl) (wanted_none rfl) rfl rfl (by kernel_rfl) (fun _ _ _ h => h) ?_; clear S a; intro a S
 refine d_done (by kernel_rfl) ?_
 refine e_then ?_
 refine c_cond (b := true) S rfl (fun _ => ?_) (fun h => by cases h)
 refine wp_seq ?_
 refine c_region ?_
 refine l_read S H (r_loadG rfl hE.o.1 hE.o.2 ag35) rfl rfl rfl ?_; clear S a; intro a S
 refine l_mv 1 S rfl ?_; clear S a; intro a S
 refine l_nil ?_
 refine e_then ?_
 refine wp_ret ?_
 refine e_then_ret ?_
 exact r_ret1 S rfl rfl ⟨rfl, H.tail⟩
theorem bey1_ (wb w0 : World) (B : Nat) (L0 : List (Nat × Obj)) (as_ ar ao ai : Addr) (hE : EW B wb as_ ar ao ai) (n : Nat) (fn s : ByteArray) (H : HH B wb w0 ((n, .cells #[.string fn, .string s, .iface 79 (.pointer (some ar))] 52 (0, 0)) :: L0)) : Calls Tryz.prog 14 #[.iface 49 (.pointer (some ⟨n, 0, none⟩))] w0 fun e w' => e = .returned (.bool true) ∧ HH B wb w' L0 := by
 refine c_enter (args := [.iface 49 (.pointer (some ⟨n, 0, none⟩))]) (k := 18) Tryz.func14 rfl rfl rfl (fun a S => ?_)
 refine wp_seq ?_
 refine c_region ?_
 refine l_mv 1 S rfl ?_; clear S a; intro a S
 refine l_nil ?_
 refine e_then ?_
 refine wp_seq ?_
 refine c_region ?_
 refine l_mv 1 S rfl ?_; clear S a; intro a S
 refine l_pure S (p_ta rfl (fun w => taN w _)) rfl rfl rfl ?_; clear S a; intro a S
 refine l_mv 5 S rfl ?_; clear S a; intro a S
 refine l_nil ?_
 refine e_then ?_
 refine wp_seq ?_
 refine d_start (id := 2) [] 10 #[false, false, false, false, false, false, false, false, false, false] H rfl rfl rfl (fun w H => ?_)
 refine d_mv [0, 1] #[true, true, false, false, false, false, false, false, false, false] S rfl (by kernel_rfl) (fun _ _ _ _ _ h => h) ?_; clear S a; intro a S
 refine d_pure (i := 2) #[true, true, true, false, false, false, false, false, false, false] S rfl (p_move rfl) (wanted_on S rfl rfl rfl rfl rfl) rfl rfl (by kernel_rfl) (fun _ _ _ h => h) ?_; clear S a; intro a S
 refine d_pure (i := 3) #[true, true, true, true, false, false, false, false, false, false] S rfl (p_nilCheck rfl) (wanted_on S rfl rfl rfl rfl rfl) rfl rfl (by kernel_rfl) (fun _ _ _ h => h) ?_; clear S a; intro a S
 refine d_pure (i := 4) #[true, true, true, true, true, false, false, false, false, false] S rfl (p_fieldAddr rfl (fun w => fa52_2 w _ _)) (wanted_on S rfl rfl rfl rfl rfl) rfl rfl (by kernel_rfl) (fun _ _ _ h => h) ?_; clear S a; intro a S
 refine d_read (i := 5) #[true, true, true, true, true, true, false, false, false, false] S H rfl (r_load rfl List.mem_cons_self rfl (fun w hc => ld1 ag35 hc)) (wanted_on S rfl rfl rfl rfl rfl) rfl rfl (by kernel_rfl) (fun _ _ _ h => h) ?_; clear S a; intro a S
 refine d_read (i := 6) #[true, true, true, true, true, true, true, false, false, false] S H rfl (r_loadG rfl hE.r.1 hE.r.2 ag35) (wanted_on S rfl rfl rfl rfl rfl) rfl rfl (by kernel_rfl) (fun _ _ _ h => h) ?_; clear S a; intro a S
 refine d_pure (i := 7) #[true, true, true, true, true, true, true, true, false, false] S rfl (p_ifsameE mi35 inf_es Tryz.underlying79 (by rw [sz81]; rfl) rfl rfl) (wanted_on S rfl rfl rfl rfl rfl) rfl rfl (by kernel_rfl) (fun _ _ _ h => h) ?_; clear S a; intro a S
 refine d_pure (i := 8) #[true, true, true, true, true, true, true, true, true, false] S rfl (p_pick_t rfl rfl rfl) (wanted_none rfl) rfl rfl (by kernel_rfl) (fun _ _ _ h => h) ?_; clear S a; intro a S
 refine d_mv [9] #[true, true, true, true, true, true, true, true, true, true] S rfl (by kernel_rfl) (fun _ _ _ _ _ h => h) ?_; clear S a; intro a S
 refine d_done (by kernel_rfl) ?_
 refine e_then ?_
 refine wp_ret ?_
 exact r_ret1 S rfl rfl ⟨rfl, H.tail⟩
theorem out1_ (wb w0 : World) (B : Nat) (L0 : List (Nat × Obj)) (as_ ar ao ai : Addr) (hE : EW B wb as_ ar ao ai) (n : Nat) (m : ByteArray) (H : HH B wb w0 L0) : Calls Tryz.prog 9 #[.iface 79 (.pointer (some ao))] w0 fun e w' => e = .returned (.bool true) ∧ HH B wb w' L0 := by
 refine c_enter (args := [.iface 79 (.pointer (some ao))]) (k := 9) Tryz.func9 rfl rfl rfl (fun a S => ?_)
 refine wp_seq ?_
 refine c_region ?_
 refine l_mv 1 S rfl ?_; clear S a; intro a S
 refine l_nil ?_
 refine e_then ?_
 refine wp_seq ?_
 refine c_region ?_
 refine l_mv 1 S rfl ?_; clear S a; intro a S
 refine l_pure S (p_ifnilN mi35 rfl rfl) rfl rfl rfl ?_; clear S a; intro a S
 refine l_mv 1 S rfl ?_; clear S a; intro a S
 refine l_on S rfl rfl rfl rfl rfl ?_
 refine l_pure S (p_move rfl) rfl rfl rfl ?_; clear S a; intro a S
 refine l_on S rfl rfl rfl rfl rfl ?_
 refine l_read S H (r_loadG rfl hE.o.1 hE.o.2 ag35) rfl rfl rfl ?_; clear S a; intro a S
 refine l_on S rfl rfl rfl rfl rfl ?_
 refine l_pure S (p_ifsameE mi35 inf_es Tryz.underlying79 (by rw [sz81]; rfl) rfl rfl) rfl rfl rfl ?_; clear S a; intro a S
 refine l_pure S (p_pick_t rfl rfl rfl) rfl rfl rfl ?_; clear S a; intro a S
 refine l_mv 1 S rfl ?_; clear S a; intro a S
 refine l_nil ?_
 refine e_then ?_
 refine wp_ret ?_
 exact r_ret1 S rfl rfl ⟨rfl, H⟩
theorem maybe2_ (wb w0 : World) (B : Nat) (L0 : List (Nat × Obj)) (as_ ar ao ai : Addr) (hE : EW B wb as_ ar ao ai) (n : Nat) (fn s m : ByteArray) (H : HH B wb w0 ((n, .cells #[.string fn, .string s, .iface 79 (.pointer (some as_))] 52 (0, 0)) :: L0)) : Calls Tryz.prog 21 #[.iface 49 (.pointer (some ⟨n, 0, none⟩)), .string m] w0 fun e w' => ∃ g, e = .returned (.iface 79 (.pointer (some ⟨g, 0, none⟩))) ∧ HH B wb w' ((g, .cells #[.string m] 81 (0, 0)) :: L0) := by
 refine c_enter (args := [.iface 49 (.pointer (some ⟨n, 0, none⟩)), .string m]) (k := 22) Tryz.func21 rfl rfl rfl (fun a S => ?_)
 refine wp_seq ?_
 refine c_region ?_
 refine l_mv 1 S rfl ?_; clear S a; intro a S
 refine l_nil ?_
 refine e_then ?_
 refine wp_seq ?_
 refine wp_seq ?_
 refine c_region ?_
 refine l_mv 1 S rfl ?_; clear S a; intro a S
 refine l_pure S (p_ta rfl (fun w => taN w _)) rfl rfl rfl ?_; clear S a; intro a S
 refine l_mv 5 S rfl ?_; clear S a; intro a S
 refine l_nil ?_
 refine e_then ?_
 refine wp_seq ?_
 refine d_start (id := 2) [] 9 #[false, false, false, false, false, false, false, false, false] H rfl rfl rfl (fun w H => ?_)
 refine d_mv [0, 1] #[true, true, false, false, false, false, false, false, false] S rfl (by kernel_rfl) (fun _ _ _ _ _ h => h) ?_; clear S a; intro a S
 refine d_pure (i := 2) #[true, true, true, false, false, false, false, false, false] S rfl (p_move rfl) (wanted_on S rfl rfl rfl rfl rfl) rfl rfl (by kernel_rfl) (fun _ _ _ h => h) ?_; clear S a; intro a S
 refine d_pure (i := 3) #[true, true, true, true, false, false, false, false, false] S rfl (p_nilCheck rfl) (wanted_on S rfl rfl rfl rfl rfl) rfl rfl (by kernel_rfl) (fun _ _ _ h => h) ?_; clear S a; intro a S
 refine d_pure (i := 4) #[true, true, true, true, true, false, false, false, false] S rfl (p_fieldAddr rfl (fun w => fa52_2 w _ _)) (wanted_on S rfl rfl rfl rfl rfl) rfl rfl (by kernel_rfl) (fun _ _ _ h => h) ?_; clear S a; intro a S
 refine d_read (i := 5) #[true, true, true, true, true, true, false, false, false] S H rfl (r_load rfl List.mem_cons_self rfl (fun w hc => ld1 ag35 hc)) (wanted_on S rfl rfl rfl rfl rfl) rfl rfl (by kernel_rfl) (fun _ _ _ h => h) ?_; clear S a; intro a S
 refine d_read (i := 6) #[true, true, true, true, true, true, true, false, false] S H rfl (r_loadG rfl hE.r.1 hE.r.2 ag35) (wanted_on S rfl rfl rfl rfl rfl) rfl rfl (by kernel_rfl) (fun _ _ _ h => h) ?_; clear S a; intro a S
 refine d_read (i := 7) #[true, true, true, true, true, true, true, true, false] S H rfl (r_ifdiff mi35 inf_es Tryz.underlying79 sz81 rfl rfl hE.ne hE.hr.1 hE.hr.2 (.inl hE.hs)) (wanted_on S rfl rfl rfl rfl rfl) rfl rfl (by kernel_rfl) (fun _ _ _ h => h) ?_; clear S a; intro a S
 refine d_pure (i := 8) #[true, true, true, true, true, true, true, true, true] S rfl (p_pick_t rfl rfl rfl) (wanted_none rfl) rfl rfl (by kernel_rfl) (fun _ _ _ h => h) ?_; clear S a; intro a S
 refine d_done (by kernel_rfl) ?_
 refine e_then ?_
 refine c_cond (b := false) S rfl (fun h => by cases h) (fun _ => ?_)
 refine wp_skip ?_
 refine e_then ?_
 refine wp_seq ?_
 refine c_region ?_
 refine l_mv 1 S rfl ?_; clear S a; intro a S
 refine l_call S rfl rfl Tryz.func26 rfl rfl (errNew_ wb _ B _ m H) rfl rfl rfl ?_
 rintro e w ⟨g1, rfl, hH⟩
 refine ⟨_, rfl, ?_⟩; clear S a; intro a S
 clear H; have H := hH; clear hH
 refine l_mv 1 S rfl ?_; clear S a; intro a S
 refine l_nil ?_
 refine e_then ?_
 refine wp_ret ?_
 exact r_ret1 S rfl rfl ⟨_, rfl, H.sub (.cons_cons _ (.cons _ (.refl _)))⟩
theorem bey2_ (wb w0 : World) (B : Nat) (L0 : List (Nat × Obj)) (as_ ar ao ai : Addr) (hE : EW B wb as_ ar ao ai) (n : Nat) (fn s : ByteArray) (H : HH B wb w0 ((n, .cells #[.string fn, .string s, .iface 79 (.pointer (some as_))] 52 (0, 0)) :: L0)) : Calls Tryz.prog 14 #[.iface 49 (.pointer (some ⟨n, 0, none⟩))] w0 fun e w' => e = .returned (.bool false) ∧ HH B wb w' L0 := by
 refine c_enter (args := [.iface 49 (.pointer (some ⟨n, 0, none⟩))]) (k := 18) Tryz.func14 rfl rfl rfl (fun a S => ?_)
 refine wp_seq ?_
 refine c_region ?_
 refine l_mv 1 S rfl ?_; clear S a; intro a S
 refine l_nil ?_
 refine e_then ?_
 refine wp_seq ?_
 refine c_region ?_
 refine l_mv 1 S rfl ?_; clear S a; intro a S
 refine l_pure S (p_ta rfl (fun w => taN w _)) rfl rfl rfl ?_; clear S a; intro a S
 refine l_mv 5 S rfl ?_; clear S a; intro a S
 refine l_nil ?_
 refine e_then ?_
 refine wp_seq ?_
 refine d_start (id := 2) [] 10 #[false, false, false, false, false, false, false, false, false, false] H rfl rfl rfl (fun w H => ?_)
 refine d_mv [0, 1] #[true, true, false, false, false, false, false, false, false, false] S rfl (by kernel_rfl) (fun _ _ _ _ _ h => h) ?_; clear S a; intro a S
 refine d_pure (i := 2) #[true, true, true, false, false, false, false, false, false, false] S rfl (p_move rfl) (wanted_on S rfl rfl rfl rfl rfl) rfl rfl (by kernel_rfl) (fun _ _ _ h => h) ?_; clear S a; intro a S
 refine d_pure (i := 3) #[true, true, true, true, false, false, false, false, false, false] S rfl (p_nilCheck rfl) (wanted_on S rfl rfl rfl rfl rfl) rfl rfl (by kernel_rfl) (fun _ _ _ h => h) ?_; clear S a; intro a S
 refine d_pure (i := 4) #[true, true, true, true, true, false, false, false, false, false] S rfl (p_fieldAddr rfl (fun w => fa52_2 w _ _)) (wanted_on S rfl rfl rfl rfl rfl) rfl rfl (by kernel_rfl) (fun _ _ _ h => h) ?_; clear S a; intro a S
 refine d_read (i := 5) #[true, true, true, true, true, true, false, false, false, false] S H rfl (r_load rfl List.mem_cons_self rfl (fun w hc => ld1 ag35 hc)) (wanted_on S rfl rfl rfl rfl rfl) rfl rfl (by kernel_rfl) (fun _ _ _ h => h) ?_; clear S a; intro a S
 refine d_read (i := 6) #[true, true, true, true, true, true, true, false, false, false] S H rfl (r_loadG rfl hE.r.1 hE.r.2 ag35) (wanted_on S rfl rfl rfl rfl rfl) rfl rfl (by kernel_rfl) (fun _ _ _ h => h) ?_; clear S a; intro a S
 refine d_read (i := 7) #[true, true, true, true, true, true, true, true, false, false] S H rfl (r_ifdiff mi35 inf_es Tryz.underlying79 sz81 rfl rfl hE.ne hE.hr.1 hE.hr.2 (.inl hE.hs)) (wanted_on S rfl rfl rfl rfl rfl) rfl rfl (by kernel_rfl) (fun _ _ _ h => h) ?_; clear S a; intro a S
 refine d_pure (i := 8) #[true, true, true, true, true, true, true, true, true, false] S rfl (p_pick_t rfl rfl rfl) (wanted_none rfl) rfl rfl (by kernel_rfl) (fun _ _ _ h => h) ?_; clear S a; intro a S
 refine d_mv [9] #[true, true, true, true, true, true, true, true, true, true] S rfl (by kernel_rfl) (fun _ _ _ _ _ h => h) ?_; clear S a; intro a S
 refine d_done (by kernel_rfl) ?_
 refine e_then ?_
 refine wp_ret ?_
 exact r_ret1 S rfl rfl ⟨rfl, H.tail⟩
theorem out2_ (wb w0 : World) (B : Nat) (L0 : List (Nat × Obj)) (as_ ar ao ai : Addr) (hE : EW B wb as_ ar ao ai) (n : Nat) (m : ByteArray) (H : HH B wb w0 ((n, .cells #[.string m] 81 (0, 0)) :: L0)) : Calls Tryz.prog 9 #[.iface 79 (.pointer (some ⟨n, 0, none⟩))] w0 fun e w' => e = .returned (.bool false) ∧ HH B wb w' L0 := by
 refine c_enter (args := [.iface 79 (.pointer (some ⟨n, 0, none⟩))]) (k := 9) Tryz.func9 rfl rfl rfl (fun a S => ?_)
 refine wp_seq ?_
 refine c_region ?_
 refine l_mv 1 S rfl ?_; clear S a; intro a S
 refine l_nil ?_
 refine e_then ?_
 refine wp_seq ?_
 refine c_region ?_
 refine l_mv 1 S rfl ?_; clear S a; intro a S
 refine l_pure S (p_ifnilN mi35 rfl rfl) rfl rfl rfl ?_; clear S a; intro a S
 refine l_mv 1 S rfl ?_; clear S a; intro a S
 refine l_on S rfl rfl rfl rfl rfl ?_
 refine l_pure S (p_move rfl) rfl rfl rfl ?_; clear S a; intro a S
 refine l_on S rfl rfl rfl rfl rfl ?_
 refine l_read S H (r_loadG rfl hE.o.1 hE.o.2 ag35) rfl rfl rfl ?_; clear S a; intro a S
 refine l_on S rfl rfl rfl rfl rfl ?_
 have hne : (⟨n, 0, none⟩ : Addr) ≠ ao := fun e => by have h1 := H.lo _ List.mem_cons_self; have h2 := hE.ho.2; rw [← e] at h2; simp only at h1 h2; omega
 refine l_read S H (r_ifdiff mi35 inf_es Tryz.underlying79 sz81 rfl rfl hne hE.ho.1 hE.ho.2 (.inr ⟨_, List.mem_cons_self, _, _, rfl⟩)) rfl rfl rfl ?_; clear S a; intro a S
 refine l_pure S (p_pick_t rfl rfl rfl) rfl rfl rfl ?_; clear S a; intro a S
 refine l_mv 1 S rfl ?_; clear S a; intro a S
 refine l_nil ?_
 refine e_then ?_
 refine wp_ret ?_
 exact r_ret1 S rfl rfl ⟨rfl, H.tail⟩
theorem maybe_ (wb w0 : World) (B : Nat) (L0 : List (Nat × Obj)) (as_ ar ao ai : Addr) (hE : EW B wb as_ ar ao ai) (fn s m : ByteArray) (o : Option Int) (ho : o = some 1 ∨ o = some 2) (v : Value) (Lx : List (Nat × Obj)) (hn : er.NumE fn s (.iface 79 (.pointer (some as_))) (.iface 79 (.pointer (some ar))) o v Lx) (H : HH B wb w0 (Lx ++ L0)) : Calls Tryz.prog 21 #[v, .string m] w0 fun e w' => ∃ err L', e = .returned err ∧ ErrR ao (farE o) err L' ∧ HH B wb w' (L' ++ L0) := by
 rcases ho with rfl | rfl
 ·
  obtain ⟨n, rfl, rfl⟩ := hn
  exact Calls.mono (maybe1_ wb w0 B L0 as_ ar ao ai hE n fn s m H) (by rintro e w' ⟨rfl, h⟩; exact ⟨_, [], rfl, .inl ⟨rfl, rfl, rfl⟩, h⟩)
 ·
  obtain ⟨n, rfl, rfl⟩ := hn
  exact Calls.mono (maybe2_ wb w0 B L0 as_ ar ao ai hE n fn s m H) (by rintro e w' ⟨g, rfl, h⟩; exact ⟨_, [_], rfl, .inr ⟨rfl, _, _, rfl, rfl⟩, h⟩)
theorem bey_ (wb w0 : World) (B : Nat) (L0 : List (Nat × Obj)) (as_ ar ao ai : Addr) (hE : EW B wb as_ ar ao ai) (fn s : ByteArray) (o : Option Int) (ho : o = some 1 ∨ o = some 2) (v : Value) (Lx : List (Nat × Obj)) (hn : er.NumE fn s (.iface 79 (.pointer (some as_))) (.iface 79 (.pointer (some ar))) o v Lx) (H : HH B wb w0 (Lx ++ L0)) : Calls Tryz.prog 14 #[v] w0 fun e w' => e = .returned (.bool (farE o)) ∧ HH B wb w' L0 := by
 rcases ho with rfl | rfl
 ·
  obtain ⟨n, rfl, rfl⟩ := hn
  exact bey1_ wb w0 B L0 as_ ar ao ai hE n fn s H
 ·
  obtain ⟨n, rfl, rfl⟩ := hn
  exact bey2_ wb w0 B L0 as_ ar ao ai hE n fn s H
theorem out_ (wb w0 : World) (B : Nat) (L0 : List (Nat × Obj)) (as_ ar ao ai : Addr) (hE : EW B wb as_ ar ao ai) (far : Bool) (v : Value) (Lx : List (Nat × Obj)) (hn : ErrR ao far v Lx) (H : HH B wb w0 (Lx ++ L0)) : Calls Tryz.prog 9 #[v] w0 fun e w' => e = .returned (.bool far) ∧ HH B wb w' L0 := by
 rcases hn with ⟨rfl, rfl, rfl⟩ | ⟨rfl, g, m, rfl, rfl⟩
 ·
  exact out1_ wb w0 B L0 as_ ar ao ai hE 0 ⟨#[]⟩ H
 ·
  exact out2_ wb w0 B L0 as_ ar ao ai hE g m H
end vr
end Go.Proofs.YtneoieigaakoaaaGreatDoor.pf
end
section
namespace Go.Proofs.YtneoieigaakoaaaGreatDoor.pf
open Go.Proofs.YtneoieigaakoaaaGreatDoor.fx
open Go.RowKit Go.Proofs.HHW Go.Proofs.YtneoieigaakoaaaGreatDoorW.PrintWords
namespace vn
theorem evE {B : Nat} {wb : World} {as_ ar ao ai : Addr} (hE : vr.EW B wb as_ ar ao ai) : er.EV 6 1 B wb (.iface 79 (.pointer (some as_))) (.iface 79 (.pointer (some ar))) := ⟨hE.s, hE.r, ⟨_, _, rfl⟩, ⟨_, _, rfl⟩⟩
theorem bits_run (b : Nat) (w : World) : (callFunc 27 #[.float .f64 b]).run Tryz.prog w = .ok (.value (.int .u64 (b : Int))) w := by kernel_rfl
theorem abs_bits {f : Nat} : IntKind.u64.wrap (BitVec.ofInt IntKind.u64.bits (f : Int) &&& ~~~ BitVec.ofInt IntKind.u64.bits 9223372036854775808).toNat = ((fl.rung f : Nat) : Int) := by
 have h1 : (BitVec.ofInt 64 (f : Int) : BitVec 64) = BitVec.ofNat 64 f := BitVec.ofInt_natCast 64 f
 have h2 : (~~~ BitVec.ofInt 64 9223372036854775808 : BitVec 64) = BitVec.ofNat 64 9223372036854775807 := by decide
 show IntKind.u64.wrap (((BitVec.ofInt 64 (f : Int)) &&& (~~~ BitVec.ofInt 64 9223372036854775808)).toNat : Int) = _
 rw [h1, h2]
 have h3 : (BitVec.ofNat 64 f &&& BitVec.ofNat 64 9223372036854775807 : BitVec 64).toNat = f % 18446744073709551616 % 9223372036854775808 := by
  rw [BitVec.toNat_and, BitVec.toNat_ofNat, BitVec.toNat_ofNat]
  exact Nat.and_two_pow_sub_one_eq_mod (f % 18446744073709551616) 63
 rw [h3, IntKind.wrap_u64]
 unfold fl.rung
 omega
theorem pi_c (s : ByteArray) : (wn.pi64 s).2 = none ∨ (wn.pi64 s).2 = some 1 ∨ (wn.pi64 s).2 = some 2 := by unfold wn.pi64; split <;> simp
theorem pu_c (s : ByteArray) : (wn.pu64 s).2 = none ∨ (wn.pu64 s).2 = some 1 ∨ (wn.pu64 s).2 = some 2 := by unfold wn.pu64; split <;> simp
theorem pInt_ (wb w0 : World) (B : Nat) (L0 : List (Nat × Obj)) (as_ ar ao ai : Addr) (hE : vr.EW B wb as_ ar ao ai) (A : Option Addr) (c : Nat) (s : ByteArray) (hs : s.size ≤ 1000000) (hsb : ∀ w, HH B wb w L0 → SB w A c (ints s)) (H : HH B wb w0 L0) : Calls Tryz.prog 20 #[.slice A (ints s).length c, .int .i64 10, .int .i64 64] w0 fun e w' => ∃ v L1, e = .returned (.tuple #[.int .i64 (wn.pi64 s).1, v]) ∧ HH B wb w' (L1 ++ L0) ∧ er.NumE (⟨#[80, 97, 114, 115, 101, 73, 110, 116]⟩ : ByteArray) s (.iface 79 (.pointer (some as_))) (.iface 79 (.pointer (some ar))) (wn.pi64 s).2 v L1 := by
 refine c_enter (args := [.slice A (ints s).length c, .int .i64 10, .int .i64 64]) (k := 12) Tryz.func20 rfl rfl rfl (fun a S => ?_)
 refine wp_seq ?_
 refine c_region ?_
 refine l_mv 2 S rfl ?_; clear S a; intro a S
 refine l_nil ?_
 refine e_then ?_
 refine wp_seq ?_
 refine c_region ?_
 refine l_mv 1 S rfl ?_; clear S a; intro a S
 have hC := (hsb _ H).C (by rw [ints_len]; omega)
 refine l_str S rfl rfl Tryz.underlying30 Tryz.underlying5 Tryz.underlying9 hC rfl rfl rfl ?_; clear S a; intro a S
 rw [vp.nums_ints] at S; clear hC
 refine l_mv 2 S rfl ?_; clear S a; intro a S
 refine l_call S rfl rfl Tryz.func40 rfl rfl (wn.pint_ wb _ B L0 _ _ (evE hE) s hs H) rfl rfl rfl ?_
 rintro e w ⟨v1, L1, rfl, hH, hne⟩
 refine ⟨_, rfl, ?_⟩; clear S a; intro a S
 clear H; have H := hH; clear hH
 refine l_mv 4 S rfl ?_; clear S a; intro a S
 refine l_nil ?_
 refine e_then ?_
 refine wp_ret ?_
 exact r_ret2 S rfl rfl rfl ⟨v1, L1, rfl, H, hne⟩
theorem pUint_ (wb w0 : World) (B : Nat) (L0 : List (Nat × Obj)) (as_ ar ao ai : Addr) (hE : vr.EW B wb as_ ar ao ai) (A : Option Addr) (c : Nat) (s : ByteArray) (hs : s.size ≤ 1000000) (hsb : ∀ w, HH B wb w L0 → SB w A c (ints s)) (H : HH B wb w0 L0) : Calls Tryz.prog 22 #[.slice A (ints s).length c, .int .i64 10, .int .i64 64] w0 fun e w' => ∃ v L1, e = .returned (.tuple #[.int .u64 (wn.pu64 s).1, v]) ∧ HH B wb w' (L1 ++ L0) ∧ er.NumE (⟨#[80, 97, 114, 115, 101, 85, 105, 110, 116]⟩ : ByteArray) s (.iface 79 (.pointer (some as_))) (.iface 79 (.pointer (some ar))) (wn.pu64 s).2 v L1 := by
 refine c_enter (args := [.slice A (ints s).length c, .int .i64 10, .int .i64 64]) (k := 12) Tryz.func22 rfl rfl rfl (fun a S => ?_)
 refine wp_seq ?_
 refine c_region ?_
 refine l_mv 2 S rfl ?_; clear S a; intro a S
 refine l_nil ?_
 refine e_then ?_
 refine wp_seq ?_
 refine c_region ?_
 refine l_mv 1 S rfl ?_; clear S a; intro a S
 have hC := (hsb _ H).C (by rw [ints_len]; omega)
 refine l_str S rfl rfl Tryz.underlying30 Tryz.underlying5 Tryz.underlying9 hC rfl rfl rfl ?_; clear S a; intro a S
 rw [vp.nums_ints] at S; clear hC
 refine l_mv 2 S rfl ?_; clear S a; intro a S
 refine l_call S rfl rfl Tryz.func41 rfl rfl (wn.puint_ wb _ B L0 _ _ (evE hE) s hs H) rfl rfl rfl ?_
 rintro e w ⟨v1, L1, rfl, hH, hne⟩
 refine ⟨_, rfl, ?_⟩; clear S a; intro a S
 clear H; have H := hH; clear hH
 refine l_mv 4 S rfl ?_; clear S a; intro a S
 refine l_nil ?_
 refine e_then ?_
 refine wp_ret ?_
 exact r_ret2 S rfl rfl rfl ⟨v1, L1, rfl, H, hne⟩
theorem pFloat_ (wb w0 : World) (B : Nat) (L0 : List (Nat × Obj)) (hT : fz.PTab 13 B wb) (hW : PW 8 9 7 12 11 14 B wb) (hL : PL 14 B wb) (as_ ar ao ai : Addr) (hE : vr.EW B wb as_ ar ao ai) (A : Option Addr) (c : Nat) (s : ByteArray) (hs : s.size ≤ 1000000) (hsb : ∀ w, HH B wb w L0 → SB w A c (ints s)) (H : HH B wb w0 L0) : Calls Tryz.prog 23 #[.slice A (ints s).length c, .int .i64 64] w0 fun e w' => ∃ v L1, e = .returned (.tuple #[.float .f64 (pr.pff s).1, v]) ∧ HH B wb w' (L1 ++ L0) ∧ er.NumE (⟨#[80, 97, 114, 115, 101, 70, 108, 111, 97, 116]⟩ : ByteArray) s (.iface 79 (.pointer (some as_))) (.iface 79 (.pointer (some ar))) (pr.pff s).2 v L1 ∧ pr.Er (pr.pff s).2 := by
 refine c_enter (args := [.slice A (ints s).length c, .int .i64 64]) (k := 10) Tryz.func23 rfl rfl rfl (fun a S => ?_)
 refine wp_seq ?_
 refine c_region ?_
 refine l_mv 2 S rfl ?_; clear S a; intro a S
 refine l_nil ?_
 refine e_then ?_
 refine wp_seq ?_
 refine c_region ?_
 refine l_mv 1 S rfl ?_; clear S a; intro a S
 have hC := (hsb _ H).C (by rw [ints_len]; omega)
 refine l_str S rfl rfl Tryz.underlying30 Tryz.underlying5 Tryz.underlying9 hC rfl rfl rfl ?_; clear S a; intro a S
 rw [vp.nums_ints] at S; clear hC
 refine l_mv 1 S rfl ?_; clear S a; intro a S
 refine l_call S rfl rfl Tryz.func13 rfl rfl (er.pfl_ wb _ B L0 hT hW hL _ _ (evE hE) s hs H) rfl rfl rfl ?_
 rintro e w ⟨v1, L1, rfl, hH, hne, hpe⟩
 refine ⟨_, rfl, ?_⟩; clear S a; intro a S
 clear H; have H := hH; clear hH
 refine l_mv 4 S rfl ?_; clear S a; intro a S
 refine l_nil ?_
 refine e_then ?_
 refine wp_ret ?_
 exact r_ret2 S rfl rfl rfl ⟨v1, L1, rfl, H, hne, hpe⟩
theorem pBool_ (wb w0 : World) (B : Nat) (L0 : List (Nat × Obj)) (as_ ar ao ai : Addr) (hE : vr.EW B wb as_ ar ao ai) (A : Option Addr) (c : Nat) (s : ByteArray) (hs : s.size ≤ 1000000) (hsb : ∀ w, HH B wb w L0 → SB w A c (ints s)) (H : HH B wb w0 L0) : Calls Tryz.prog 28 #[.slice A (ints s).length c] w0 fun e w' => e = .returned (.tuple #[.int .u8 (bif inW s tTrue then 1 else 0), (bif (inW s tTrue || inW s tFalse) then .nilIface else .iface 79 (.pointer (some ai)))]) ∧ HH B wb w' L0 := by
 refine c_enter (args := [.slice A (ints s).length c]) (k := 18) Tryz.func28 rfl rfl rfl (fun a S => ?_)
 refine wp_seq ?_
 refine c_region ?_
 refine l_mv 2 S rfl ?_; clear S a; intro a S
 refine l_nil ?_
 refine e_then ?_
 refine wp_seq ?_
 refine wp_seq ?_
 refine c_region ?_
 refine l_mv 1 S rfl ?_; clear S a; intro a S
 have hC := (hsb _ H).C (by rw [ints_len]; omega)
 refine l_str S rfl rfl Tryz.underlying30 Tryz.underlying5 Tryz.underlying9 hC rfl rfl rfl ?_; clear S a; intro a S
 rw [vp.nums_ints] at S; clear hC
 refine l_nil ?_
 refine e_then ?_
 refine wp_block ?_
 refine wp_seq ?_
 refine wp_seq ?_
 refine c_region ?_
 refine l_pure S (p_seql rfl rfl) rfl rfl rfl ?_; clear S a; intro a S
 refine l_mv 1 S rfl ?_; clear S a; intro a S
 refine l_nil ?_
 refine e_then ?_
 refine c_cond S rfl (fun bc2 => ?_) (fun bc2 => ?_)
 ·
  have c2 := bc2
  refine wp_skip ?_
  refine e_then ?_
  refine c_cond S rfl (fun _ => ?_) (fun h => by rw [bc2] at h; cases h)
  refine wp_seq ?_
  refine c_region ?_
  refine l_mv 2 S rfl ?_; clear S a; intro a S
  refine l_nil ?_
  refine e_then ?_
  refine wp_ret ?_
  refine e_in_ret ?_
  refine e_then_ret ?_
  exact r_ret2 S rfl rfl rfl ⟨by simp only [inW, tTrue, tFalse, List.any_cons, List.any_nil, bc2, Bool.or_false, Bool.false_or, Bool.or_true, Bool.true_or, Bool.not_true, Bool.not_false]; rfl, H⟩
 ·
  have c2 := bc2
  refine wp_seq ?_
  refine c_region ?_
  refine l_pure S (p_seql rfl rfl) rfl rfl rfl ?_; clear S a; intro a S
  refine l_mv 1 S rfl ?_; clear S a; intro a S
  refine l_nil ?_
  refine e_then ?_
  refine c_cond S rfl (fun bc5 => ?_) (fun bc5 => ?_)
  ·
   have c5 := bc5
   refine wp_skip ?_
   refine e_then ?_
   refine c_cond S rfl (fun _ => ?_) (fun h => by rw [bc5] at h; cases h)
   refine wp_seq ?_
   refine c_region ?_
   refine l_mv 2 S rfl ?_; clear S a; intro a S
   refine l_nil ?_
   refine e_then ?_
   refine wp_ret ?_
   refine e_in_ret ?_
   refine e_then_ret ?_
   exact r_ret2 S rfl rfl rfl ⟨by simp only [inW, tTrue, tFalse, List.any_cons, List.any_nil, bc2, bc5, Bool.or_false, Bool.false_or, Bool.or_true, Bool.true_or, Bool.not_true, Bool.not_false]; rfl, H⟩
  ·
   have c5 := bc5
   refine wp_seq ?_
   refine c_region ?_
   refine l_pure S (p_seql rfl rfl) rfl rfl rfl ?_; clear S a; intro a S
   refine l_mv 1 S rfl ?_; clear S a; intro a S
   refine l_nil ?_
   refine e_then ?_
   refine c_cond S rfl (fun bc8 => ?_) (fun bc8 => ?_)
   ·
    have c8 := bc8
    refine wp_skip ?_
    refine e_then ?_
    refine c_cond S rfl (fun _ => ?_) (fun h => by rw [bc8] at h; cases h)
    refine wp_seq ?_
    refine c_region ?_
    refine l_mv 2 S rfl ?_; clear S a; intro a S
    refine l_nil ?_
    refine e_then ?_
    refine wp_ret ?_
    refine e_in_ret ?_
    refine e_then_ret ?_
    exact r_ret2 S rfl rfl rfl ⟨by simp only [inW, tTrue, tFalse, List.any_cons, List.any_nil, bc2, bc5, bc8, Bool.or_false, Bool.false_or, Bool.or_true, Bool.true_or, Bool.not_true, Bool.not_false]; rfl, H⟩
   ·
    have c8 := bc8
    refine wp_seq ?_
    refine c_region ?_
    refine l_pure S (p_seql rfl rfl) rfl rfl rfl ?_; clear S a; intro a S
    refine l_mv 1 S rfl ?_; clear S a; intro a S
    refine l_nil ?_
    refine e_then ?_
    refine c_cond S rfl (fun bc11 => ?_) (fun bc11 => ?_)
    ·
     have c11 := bc11
     refine wp_skip ?_
     refine e_then ?_
     refine c_cond S rfl (fun _ => ?_) (fun h => by rw [bc11] at h; cases h)
     refine wp_seq ?_
     refine c_region ?_
     refine l_mv 2 S rfl ?_; clear S a; intro a S
     refine l_nil ?_
     refine e_then ?_
     refine wp_ret ?_
     refine e_in_ret ?_
     refine e_then_ret ?_
     exact r_ret2 S rfl rfl rfl ⟨by simp only [inW, tTrue, tFalse, List.any_cons, List.any_nil, bc2, bc5, bc8, bc11, Bool.or_false, Bool.false_or, Bool.or_true, Bool.true_or, Bool.not_true, Bool.not_false]; rfl, H⟩
    ·
     have c11 := bc11
     refine c_region ?_
     refine l_pure S (p_seql rfl rfl) rfl rfl rfl ?_; clear S a; intro a S
     refine l_mv 1 S rfl ?_; clear S a; intro a S
     refine l_nil ?_
     refine e_then ?_
     refine c_cond S rfl (fun bc14 => ?_) (fun bc14 => ?_)
     ·
      have c14 := bc14
      refine wp_seq ?_
      refine c_region ?_
      refine l_mv 2 S rfl ?_; clear S a; intro a S
      refine l_nil ?_
      refine e_then ?_
      refine wp_ret ?_
      refine e_in_ret ?_
      refine e_then_ret ?_
      exact r_ret2 S rfl rfl rfl ⟨by simp only [inW, tTrue, tFalse, List.any_cons, List.any_nil, bc2, bc5, bc8, bc11, bc14, Bool.or_false, Bool.false_or, Bool.or_true, Bool.true_or, Bool.not_true, Bool.not_false]; rfl, H⟩
     ·
      have c14 := bc14
      refine wp_seq ?_
      refine wp_seq ?_
      refine c_region ?_
      refine l_pure S (p_seql rfl rfl) rfl rfl rfl ?_; clear S a; intro a S
      refine l_mv 1 S rfl ?_; clear S a; intro a S
      refine l_nil ?_
      refine e_then ?_
      refine c_cond S rfl (fun bc16 => ?_) (fun bc16 => ?_)
      ·
       have c16 := bc16
       refine wp_skip ?_
       refine e_then ?_
       refine c_cond S rfl (fun _ => ?_) (fun h => by rw [bc16] at h; cases h)
       refine wp_seq ?_
       refine c_region ?_
       refine l_mv 2 S rfl ?_; clear S a; intro a S
       refine l_nil ?_
       refine e_then ?_
       refine wp_ret ?_
       refine e_in_ret ?_
       refine e_then_ret ?_
       exact r_ret2 S rfl rfl rfl ⟨by simp only [inW, tTrue, tFalse, List.any_cons, List.any_nil, bc2, bc5, bc8, bc11, bc14, bc16, Bool.or_false, Bool.false_or, Bool.or_true, Bool.true_or, Bool.not_true, Bool.not_false]; rfl, H⟩
      ·
       have c16 := bc16
       refine wp_seq ?_
       refine c_region ?_
       refine l_pure S (p_seql rfl rfl) rfl rfl rfl ?_; clear S a; intro a S
       refine l_mv 1 S rfl ?_; clear S a; intro a S
       refine l_nil ?_
       refine e_then ?_
       refine c_cond S rfl (fun bc19 => ?_) (fun bc19 => ?_)
       ·
        have c19 := bc19
        refine wp_skip ?_
        refine e_then ?_
        refine c_cond S rfl (fun _ => ?_) (fun h => by rw [bc19] at h; cases h)
        refine wp_seq ?_
        refine c_region ?_
        refine l_mv 2 S rfl ?_; clear S a; intro a S
        refine l_nil ?_
        refine e_then ?_
        refine wp_ret ?_
        refine e_in_ret ?_
        refine e_then_ret ?_
        exact r_ret2 S rfl rfl rfl ⟨by simp only [inW, tTrue, tFalse, List.any_cons, List.any_nil, bc2, bc5, bc8, bc11, bc14, bc16, bc19, Bool.or_false, Bool.false_or, Bool.or_true, Bool.true_or, Bool.not_true, Bool.not_false]; rfl, H⟩
       ·
        have c19 := bc19
        refine wp_seq ?_
        refine c_region ?_
        refine l_pure S (p_seql rfl rfl) rfl rfl rfl ?_; clear S a; intro a S
        refine l_mv 1 S rfl ?_; clear S a; intro a S
        refine l_nil ?_
        refine e_then ?_
        refine c_cond S rfl (fun bc22 => ?_) (fun bc22 => ?_)
        ·
         have c22 := bc22
         refine wp_skip ?_
         refine e_then ?_
         refine c_cond S rfl (fun _ => ?_) (fun h => by rw [bc22] at h; cases h)
         refine wp_seq ?_
         refine c_region ?_
         refine l_mv 2 S rfl ?_; clear S a; intro a S
         refine l_nil ?_
         refine e_then ?_
         refine wp_ret ?_
         refine e_in_ret ?_
         refine e_then_ret ?_
         exact r_ret2 S rfl rfl rfl ⟨by simp only [inW, tTrue, tFalse, List.any_cons, List.any_nil, bc2, bc5, bc8, bc11, bc14, bc16, bc19, bc22, Bool.or_false, Bool.false_or, Bool.or_true, Bool.true_or, Bool.not_true, Bool.not_false]; rfl, H⟩
        ·
         have c22 := bc22
         refine wp_seq ?_
         refine c_region ?_
         refine l_pure S (p_seql rfl rfl) rfl rfl rfl ?_; clear S a; intro a S
         refine l_mv 1 S rfl ?_; clear S a; intro a S
         refine l_nil ?_
         refine e_then ?_
         refine c_cond S rfl (fun bc25 => ?_) (fun bc25 => ?_)
         ·
          have c25 := bc25
          refine wp_skip ?_
          refine e_then ?_
          refine c_cond S rfl (fun _ => ?_) (fun h => by rw [bc25] at h; cases h)
          refine wp_seq ?_
          refine c_region ?_
          refine l_mv 2 S rfl ?_; clear S a; intro a S
          refine l_nil ?_
          refine e_then ?_
          refine wp_ret ?_
          refine e_in_ret ?_
          refine e_then_ret ?_
          exact r_ret2 S rfl rfl rfl ⟨by simp only [inW, tTrue, tFalse, List.any_cons, List.any_nil, bc2, bc5, bc8, bc11, bc14, bc16, bc19, bc22, bc25, Bool.or_false, Bool.false_or, Bool.or_true, Bool.true_or, Bool.not_true, Bool.not_false]; rfl, H⟩
         ·
          have c25 := bc25
          refine c_region ?_
          refine l_pure S (p_seql rfl rfl) rfl rfl rfl ?_; clear S a; intro a S
          refine l_mv 1 S rfl ?_; clear S a; intro a S
          refine l_nil ?_
          refine e_then ?_
          refine c_cond S rfl (fun bc28 => ?_) (fun bc28 => ?_)
          ·
           have c28 := bc28
           refine wp_seq ?_
           refine c_region ?_
           refine l_mv 2 S rfl ?_; clear S a; intro a S
           refine l_nil ?_
           refine e_then ?_
           refine wp_ret ?_
           refine e_in_ret ?_
           refine e_then_ret ?_
           exact r_ret2 S rfl rfl rfl ⟨by simp only [inW, tTrue, tFalse, List.any_cons, List.any_nil, bc2, bc5, bc8, bc11, bc14, bc16, bc19, bc22, bc25, bc28, Bool.or_false, Bool.false_or, Bool.or_true, Bool.true_or, Bool.not_true, Bool.not_false]; rfl, H⟩
          ·
           have c28 := bc28
           refine wp_skip ?_
           refine e_in 0 ?_
           refine e_then ?_
           refine wp_seq ?_
           refine d_start (id := 14) [] 3 #[false, false, false] H rfl rfl rfl (fun w H => ?_)
           refine d_mv [1] #[false, true, false] S rfl (by kernel_rfl) (fun _ _ _ _ _ h => h) ?_; clear S a; intro a S
           refine d_read (i := 0) #[true, true, false] S H rfl (r_loadG rfl hE.i.1 hE.i.2 ag35) (wanted_none rfl) rfl rfl (by kernel_rfl) (fun _ _ _ h => h) ?_; clear S a; intro a S
           refine d_mv [2] #[true, true, true] S rfl (by kernel_rfl) (fun _ _ _ _ _ h => h) ?_; clear S a; intro a S
           refine d_done (by kernel_rfl) ?_
           refine e_then ?_
           refine wp_ret ?_
           exact r_ret2 S rfl rfl rfl ⟨by simp only [inW, tTrue, tFalse, List.any_cons, List.any_nil, bc2, bc5, bc8, bc11, bc14, bc16, bc19, bc22, bc25, bc28, Bool.or_false, Bool.false_or, Bool.or_true, Bool.true_or, Bool.not_true, Bool.not_false]; rfl, H⟩
theorem abs_ (wb w0 : World) (B : Nat) (L0 : List (Nat × Obj)) (f : Nat) (H : HH B wb w0 L0) : Calls Tryz.prog 42 #[.float .f64 f] w0 fun e w' => e = .returned (.float .f64 (fl.rung f)) ∧ HH B wb w' L0 := by
 refine c_enter (args := [.float .f64 f]) (k := 6) Tryz.func42 rfl rfl rfl (fun a S => ?_)
 refine wp_seq ?_
 refine c_region ?_
 refine l_mv 1 S rfl ?_; clear S a; intro a S
 refine l_nil ?_
 refine e_then ?_
 refine wp_seq ?_
 refine c_region ?_
 refine l_mv 1 S rfl ?_; clear S a; intro a S
 refine l_pure S (p_ext rfl (fun w => bits_run _ w)) rfl rfl rfl ?_; clear S a; intro a S
 refine l_pure S (p_andnot rfl rfl abs_bits) rfl rfl rfl ?_; clear S a; intro a S
 refine l_pure S (p_ext rfl (fun w => vl.from_run _ w)) rfl rfl rfl ?_; clear S a; intro a S
 refine l_mv 1 S rfl ?_; clear S a; intro a S
 refine l_nil ?_
 refine e_then ?_
 refine wp_ret ?_
 exact r_ret1 S rfl rfl ⟨rfl, H⟩
theorem inf_ (wb w0 : World) (B : Nat) (L0 : List (Nat × Obj)) (f : Nat) (H : HH B wb w0 L0) : Calls Tryz.prog 24 #[.float .f64 f, .int .i64 0] w0 fun e w' => e = .returned (.bool (decide (fl.rung f = 9218868437227405312))) ∧ HH B wb w' L0 := by
 refine c_enter (args := [.float .f64 f, .int .i64 0]) (k := 13) Tryz.func24 rfl rfl rfl (fun a S => ?_)
 refine wp_seq ?_
 refine c_region ?_
 refine l_mv 1 S rfl ?_; clear S a; intro a S
 refine l_nil ?_
 refine e_then ?_
 refine wp_seq ?_
 refine wp_seq ?_
 refine c_region ?_
 refine l_mv 1 S rfl ?_; clear S a; intro a S
 refine l_pure S (p_eql rfl rfl) rfl rfl rfl ?_; clear S a; intro a S
 refine l_nil ?_
 refine e_then ?_
 refine c_cond (b := true) S rfl (fun _ => ?_) (fun h => by cases h)
 refine c_region ?_
 refine l_mv 1 S rfl ?_; clear S a; intro a S
 have hcon := abs_ wb _ B _ f H
 refine l_call S rfl rfl Tryz.func42 rfl rfl (hcon) rfl rfl rfl ?_
 rintro e w ⟨rfl, hH⟩
 refine ⟨_, rfl, ?_⟩; clear S a; intro a S
 clear H hcon; have H := hH; clear hH
 refine l_mv 1 S rfl ?_; clear S a; intro a S
 refine l_nil ?_
 refine e_then ?_
 refine wp_seq ?_
 refine c_region ?_
 refine l_mv 1 S rfl ?_; clear S a; intro a S
 refine l_pure S (p_fgtr rfl rfl) rfl rfl rfl ?_; clear S a; intro a S
 refine l_mv 1 S rfl ?_; clear S a; intro a S
 refine l_nil ?_
 refine e_then ?_
 refine wp_ret ?_
 exact r_ret1 S rfl rfl ⟨by rw [← fl.above], H⟩
theorem nan_ (wb w0 : World) (B : Nat) (L0 : List (Nat × Obj)) (f : Nat) (H : HH B wb w0 L0) : Calls Tryz.prog 25 #[.float .f64 f] w0 fun e w' => e = .returned (.bool (!fl.eq f f)) ∧ HH B wb w' L0 := by
 refine c_enter (args := [.float .f64 f]) (k := 5) Tryz.func25 rfl rfl rfl (fun a S => ?_)
 refine wp_seq ?_
 refine c_region ?_
 refine l_mv 1 S rfl ?_; clear S a; intro a S
 refine l_nil ?_
 refine e_then ?_
 refine wp_seq ?_
 refine c_region ?_
 refine l_mv 2 S rfl ?_; clear S a; intro a S
 refine l_pure S (p_fneq rfl rfl) rfl rfl rfl ?_; clear S a; intro a S
 refine l_mv 1 S rfl ?_; clear S a; intro a S
 refine l_nil ?_
 refine e_then ?_
 refine wp_ret ?_
 exact r_ret1 S rfl rfl ⟨rfl, H⟩
end vn
end Go.Proofs.YtneoieigaakoaaaGreatDoor.pf
end
section
namespace Go.Proofs.YtneoieigaakoaaaGreatDoor.dec
open Go.Proofs.YtneoieigaakoaaaGreatDoor.fx
open Go.RowKit Go.Proofs.HHW Go.Proofs.YtneoieigaakoaaaGreatDoorW.PrintWords
namespace gv
abbrev yy := true
abbrev nn := false
theorem ag85 : aggB Tryz.prog 85 = some true := by kernel_rfl
theorem fa85_0 (w : World) (g o : Nat) : (Instr.fieldAt 85 (.pointer (some ⟨g, o, none⟩)) 0).run Tryz.prog w = .ok (.pointer (some ⟨g, o + 0, none⟩)) w := by kernel_rfl
theorem fa85_1 (w : World) (g o : Nat) : (Instr.fieldAt 85 (.pointer (some ⟨g, o, none⟩)) 1).run Tryz.prog w = .ok (.pointer (some ⟨g, o + 1, none⟩)) w := by kernel_rfl
theorem sz85 : szB Tryz.prog 85 = some 2 := by kernel_rfl
theorem zv85 : zvB Tryz.prog 85 = some (.agg #[.int .u8 0, .int .u8 0]) := by kernel_rfl
theorem word_ (w0 : World) (gq oq c : Nat) (l : List Int) (hR : RB w0 gq oq l) (h8 : 8 ≤ l.length) (hby : ∀ x ∈ l, 0 ≤ x ∧ x < 256) : Calls Tryz.prog 43 #[.slice (some ⟨gq, oq, none⟩) l.length c] w0 fun e w' => ∃ x : BitVec 64, e = .returned (.int .u64 (x.toNat : Int)) ∧ (∀ k, k < 8 → x.getLsbD (8 * k + 7) = decide (128 ≤ l.getD k 0)) ∧ Below w0.heap.size w0 w' := by
 have H := HH.start w0
 refine c_enter (args := [.slice (some ⟨gq, oq, none⟩) l.length c]) (k := 70) Tryz.func43 rfl rfl rfl ?_
 refine pS (pG (pM 1 rfl (pL (pT (pS (zf (pK (pT (pS ?_)))))))));intro a S
 refine d_start (id := 2) [] 47 #[nn,nn,nn,nn,nn,nn,nn,nn,nn,nn,nn,nn,nn,nn,nn,nn,nn,nn,nn,nn,nn,nn,nn,nn,nn,nn,nn,nn,nn,nn,nn,nn,nn,nn,nn,nn,nn,nn,nn,nn,nn,nn,nn,nn,nn,nn,nn] H rfl rfl rfl (fun w H => ?_)
 revert a;refine qM [0,4,10,16,22,28,34,40] rfl (qP 1 rfl (p_indexAddr rfl rfl (fun w => ia_slice Tryz.underlying30 sz5 (by omega) (by omega))) rfl (qR 2 H rfl (r_byte (l := l) (i := 0) (v := ((BitVec.ofInt 8 (l.getD (0) 0)).toNat : Int)) rfl (by omega) ag5 hR rfl (bv8_get hby (show 0 < l.length by omega))) rfl (qP 3 rfl (p_conv rfl (fun w => cv_int (Tryz.underlying5) (Tryz.underlying22) (w8to64 (BitVec.ofInt 8 (l.getD (0) 0))))) rfl (qP 5 rfl (p_indexAddr rfl rfl (fun w => ia_slice Tryz.underlying30 sz5 (by omega) (by omega))) rfl (qR 6 H rfl (r_byte (l := l) (i := 1) (v := ((BitVec.ofInt 8 (l.getD (1) 0)).toNat : Int)) rfl (by omega) ag5 hR rfl (bv8_get hby (show 1 < l.length by omega))) rfl (qP 7 rfl (p_conv rfl (fun w => cv_int (Tryz.underlying5) (Tryz.underlying22) (w8to64 (BitVec.ofInt 8 (l.getD (1) 0))))) rfl (qP 8 rfl (p_shl rfl rfl (by decide) (shl64 ((BitVec.ofInt 8 (l.getD (1) 0)).setWidth 64) (n := 8) rfl (by decide))) rfl (qP 9 rfl (p_or rfl rfl (or64 ((BitVec.ofInt 8 (l.getD (0) 0)).setWidth 64) (((BitVec.ofInt 8 (l.getD (1) 0)).setWidth 64) <<< 8))) rfl (qP 11 rfl (p_indexAddr rfl rfl (fun w => ia_slice Tryz.underlying30 sz5 (by omega) (by omega))) rfl (qR 12 H rfl (r_byte (l := l) (i := 2) (v := ((BitVec.ofInt 8 (l.getD (2) 0)).toNat : Int)) rfl (by omega) ag5 hR rfl (bv8_get hby (show 2 < l.length by omega))) rfl (qP 13 rfl (p_conv rfl (fun w => cv_int (Tryz.underlying5) (Tryz.underlying22) (w8to64 (BitVec.ofInt 8 (l.getD (2) 0))))) rfl (qP 14 rfl (p_shl rfl rfl (by decide) (shl64 ((BitVec.ofInt 8 (l.getD (2) 0)).setWidth 64) (n := 16) rfl (by decide))) rfl (qP 15 rfl (p_or rfl rfl (or64 (((BitVec.ofInt 8 (l.getD (0) 0)).setWidth 64) ||| (((BitVec.ofInt 8 (l.getD (1) 0)).setWidth 64) <<< 8)) (((BitVec.ofInt 8 (l.getD (2) 0)).setWidth 64) <<< 16))) rfl (qP 17 rfl (p_indexAddr rfl rfl (fun w => ia_slice Tryz.underlying30 sz5 (by omega) (by omega))) rfl (qR 18 H rfl (r_byte (l := l) (i := 3) (v := ((BitVec.ofInt 8 (l.getD (3) 0)).toNat : Int)) rfl (by omega) ag5 hR rfl (bv8_get hby (show 3 < l.length by omega))) rfl (qP 19 rfl (p_conv rfl (fun w => cv_int (Tryz.underlying5) (Tryz.underlying22) (w8to64 (BitVec.ofInt 8 (l.getD (3) 0))))) rfl (qP 20 rfl (p_shl rfl rfl (by decide) (shl64 ((BitVec.ofInt 8 (l.getD (3) 0)).setWidth 64) (n := 24) rfl (by decide))) rfl (qP 21 rfl (p_or rfl rfl (or64 ((((BitVec.ofInt 8 (l.getD (0) 0)).setWidth 64) ||| (((BitVec.ofInt 8 (l.getD (1) 0)).setWidth 64) <<< 8)) ||| (((BitVec.ofInt 8 (l.getD (2) 0)).setWidth 64) <<< 16)) (((BitVec.ofInt 8 (l.getD (3) 0)).setWidth 64) <<< 24))) rfl (qP 23 rfl (p_indexAddr rfl rfl (fun w => ia_slice Tryz.underlying30 sz5 (by omega) (by omega))) rfl (qR 24 H rfl (r_byte (l := l) (i := 4) (v := ((BitVec.ofInt 8 (l.getD (4) 0)).toNat : Int)) rfl (by omega) ag5 hR rfl (bv8_get hby (show 4 < l.length by omega))) rfl (qP 25 rfl (p_conv rfl (fun w => cv_int (Tryz.underlying5) (Tryz.underlying22) (w8to64 (BitVec.ofInt 8 (l.getD (4) 0))))) rfl (qP 26 rfl (p_shl rfl rfl (by decide) (shl64 ((BitVec.ofInt 8 (l.getD (4) 0)).setWidth 64) (n := 32) rfl (by decide))) rfl (qP 27 rfl (p_or rfl rfl (or64 (((((BitVec.ofInt 8 (l.getD (0) 0)).setWidth 64) ||| (((BitVec.ofInt 8 (l.getD (1) 0)).setWidth 64) <<< 8)) ||| (((BitVec.ofInt 8 (l.getD (2) 0)).setWidth 64) <<< 16)) ||| (((BitVec.ofInt 8 (l.getD (3) 0)).setWidth 64) <<< 24)) (((BitVec.ofInt 8 (l.getD (4) 0)).setWidth 64) <<< 32))) rfl (qP 29 rfl (p_indexAddr rfl rfl (fun w => ia_slice Tryz.underlying30 sz5 (by omega) (by omega))) rfl (qR 30 H rfl (r_byte (l := l) (i := 5) (v := ((BitVec.ofInt 8 (l.getD (5) 0)).toNat : Int)) rfl (by omega) ag5 hR rfl (bv8_get hby (show 5 < l.length by omega))) rfl (qP 31 rfl (p_conv rfl (fun w => cv_int (Tryz.underlying5) (Tryz.underlying22) (w8to64 (BitVec.ofInt 8 (l.getD (5) 0))))) rfl (qP 32 rfl (p_shl rfl rfl (by decide) (shl64 ((BitVec.ofInt 8 (l.getD (5) 0)).setWidth 64) (n := 40) rfl (by decide))) rfl (qP 33 rfl (p_or rfl rfl (or64 ((((((BitVec.ofInt 8 (l.getD (0) 0)).setWidth 64) ||| (((BitVec.ofInt 8 (l.getD (1) 0)).setWidth 64) <<< 8)) ||| (((BitVec.ofInt 8 (l.getD (2) 0)).setWidth 64) <<< 16)) ||| (((BitVec.ofInt 8 (l.getD (3) 0)).setWidth 64) <<< 24)) ||| (((BitVec.ofInt 8 (l.getD (4) 0)).setWidth 64) <<< 32)) (((BitVec.ofInt 8 (l.getD (5) 0)).setWidth 64) <<< 40))) rfl (qP 35 rfl (p_indexAddr rfl rfl (fun w => ia_slice Tryz.underlying30 sz5 (by omega) (by omega))) rfl (qR 36 H rfl (r_byte (l := l) (i := 6) (v := ((BitVec.ofInt 8 (l.getD (6) 0)).toNat : Int)) rfl (by omega) ag5 hR rfl (bv8_get hby (show 6 < l.length by omega))) rfl (qP 37 rfl (p_conv rfl (fun w => cv_int (Tryz.underlying5) (Tryz.underlying22) (w8to64 (BitVec.ofInt 8 (l.getD (6) 0))))) rfl (qP 38 rfl (p_shl rfl rfl (by decide) (shl64 ((BitVec.ofInt 8 (l.getD (6) 0)).setWidth 64) (n := 48) rfl (by decide))) rfl (qP 39 rfl (p_or rfl rfl (or64 (((((((BitVec.ofInt 8 (l.getD (0) 0)).setWidth 64) ||| (((BitVec.ofInt 8 (l.getD (1) 0)).setWidth 64) <<< 8)) ||| (((BitVec.ofInt 8 (l.getD (2) 0)).setWidth 64) <<< 16)) ||| (((BitVec.ofInt 8 (l.getD (3) 0)).setWidth 64) <<< 24)) ||| (((BitVec.ofInt 8 (l.getD (4) 0)).setWidth 64) <<< 32)) ||| (((BitVec.ofInt 8 (l.getD (5) 0)).setWidth 64) <<< 40)) (((BitVec.ofInt 8 (l.getD (6) 0)).setWidth 64) <<< 48))) rfl (qP 41 rfl (p_indexAddr rfl rfl (fun w => ia_slice Tryz.underlying30 sz5 (by omega) (by omega))) rfl (qR 42 H rfl (r_byte (l := l) (i := 7) (v := ((BitVec.ofInt 8 (l.getD (7) 0)).toNat : Int)) rfl (by omega) ag5 hR rfl (bv8_get hby (show 7 < l.length by omega))) rfl (qP 43 rfl (p_conv rfl (fun w => cv_int (Tryz.underlying5) (Tryz.underlying22) (w8to64 (BitVec.ofInt 8 (l.getD (7) 0))))) rfl (qP 44 rfl (p_shl rfl rfl (by decide) (shl64 ((BitVec.ofInt 8 (l.getD (7) 0)).setWidth 64) (n := 56) rfl (by decide))) rfl (qP 45 rfl (p_or rfl rfl (or64 ((((((((BitVec.ofInt 8 (l.getD (0) 0)).setWidth 64) ||| (((BitVec.ofInt 8 (l.getD (1) 0)).setWidth 64) <<< 8)) ||| (((BitVec.ofInt 8 (l.getD (2) 0)).setWidth 64) <<< 16)) ||| (((BitVec.ofInt 8 (l.getD (3) 0)).setWidth 64) <<< 24)) ||| (((BitVec.ofInt 8 (l.getD (4) 0)).setWidth 64) <<< 32)) ||| (((BitVec.ofInt 8 (l.getD (5) 0)).setWidth 64) <<< 40)) ||| (((BitVec.ofInt 8 (l.getD (6) 0)).setWidth 64) <<< 48)) (((BitVec.ofInt 8 (l.getD (7) 0)).setWidth 64) <<< 56))) rfl (qM [46] rfl (qD (pT (pZ ?_))))))))))))))))))))))))))))))))))))))))));intro a S
 exact r_ret1 S rfl rfl ⟨_, rfl, fun k hk => (word_bits _ _ _ _ _ _ _ _ k hk).trans (word_tops hby h8 k hk), H.below⟩
set_option maxHeartbeats 4000000 in
set_option maxRecDepth 20000 in
theorem valid_ (w0 : World) (A : Option Addr) (c : Nat) (s : ByteArray) (hsb : SB w0 A c (ints s)) (hs : s.size ≤ 1000000000) (hT : Lib.Utf8Tabs 4 5 w0) : Calls Tryz.prog 29 #[.slice A (ints s).length c] w0 fun e w' => e = .returned (.bool (up.V s 0)) ∧ Below w0.heap.size w0 w' := by
 have H := HH.start w0
 have hil := ints_len s
 refine c_enter (args := [.slice A (ints s).length c]) (k := 187) Tryz.func29 rfl rfl rfl ?_
 refine pS (pG (pM 1 rfl (pL (pT (pS (pG (pM 2 rfl (pP (p_len Tryz.underlying30 rfl) rfl (pM 1 rfl (pP (p_len Tryz.underlying30 rfl) rfl (pP (p_slice rfl (fun _ _ => o_none) (o_some rfl) (o_some rfl) (fun w => sl_max Tryz.underlying30 sz5 hsb.1)) rfl (pM 1 rfl (pL (pT (pS (pB ?_))))))))))))))));intro a S
 have hsb0 := hsb.max
 refine c_loop (σ := Nat × Option Addr × Nat) (fun s_ a w => match s_ with | ⟨i, A, c⟩ => SL a 188 [] [(0, .slice A ((ints s).drop i).length c)] ∧ HH (w0.heap.size) w0 w [] ∧ (i ≤ s.size ∧ up.V s 0 = up.V s i ∧ SB w0 A c ((ints s).drop i))) (fun s_ => match s_ with | ⟨i, A, c⟩ => s.size - i) ⟨0, A, (ints s).length⟩ ⟨S.only ⟨rfl, trivial⟩, H, ⟨Nat.zero_le _, rfl, hsb0⟩⟩ ?_
 clear S a H; rintro ⟨i, A, c⟩ a w ⟨S, H, hinv⟩
 obtain ⟨hi, hV, hq⟩ := hinv
 have hln : ((ints s).drop i).length = s.size - i := by rw [List.length_drop, ints_len]
 have hr0 := HHW.bt_range s (i : Int)
 have hr1 := HHW.bt_range s ((i + 1 : Nat) : Int)
 have hr2 := HHW.bt_range s ((i + 2 : Nat) : Int)
 have hr3 := HHW.bt_range s ((i + 3 : Nat) : Int)
 revert a;refine pS (pS (pG (pM 1 rfl (pP (p_len Tryz.underlying30 rfl) rfl (pP (p_gtr rfl rfl) rfl (pL (pT (zc rfl (fun bc3 => ?_) (fun bc3 => ?_)))))))))
 ·
  intro a S
  have c3 := of_decide_eq_true bc3
  obtain ⟨go4, o4, rfl, hRo4⟩ := hq.get (i := 0) (by omega)
  revert a;refine pK (pT (pB (pS (pG (pM 1 rfl (pP (p_indexAddr rfl rfl (fun w => ia_slice Tryz.underlying30 sz5 (by omega) (by omega))) rfl (pR H (r_byte (l := ((ints s).drop i)) (i := 0) (v := HHW.bt s (i : Int)) rfl (by omega) ag5 hRo4 rfl (int_at s (k := 0) rfl (by omega))) rfl (pM 1 rfl (pL (pT (pS (pS (pG (pM 1 rfl (pP (p_lss rfl rfl) rfl (pL (pT (zc rfl (fun bc6 => ?_) (fun bc6 => ?_)))))))))))))))))))
  ·
   intro a S
   have c6 := of_decide_eq_true bc6
   have hV1 : up.V s 0 = up.V s (i + 1) := hV.trans (up.V_ascii (by omega) (by omega))
   revert a;refine pS (pG (pM 1 rfl ?_));intro a S
   have hsb7 := hq.drop (m := 1) (by omega)
   revert a;refine pP (p_slice rfl (o_some rfl) (fun _ _ => o_none) (fun _ _ => o_none) (fun w => sl_sb_lo (m := 1) Tryz.underlying30 sz5 rfl (by omega))) rfl ?_;intro a S
   rw [List.drop_drop] at S hsb7
   revert S; revert hsb7
   generalize cutAt _ _ 1 1 = Ab7
   generalize _ - 1 = cb7
   intro hsb7 S
   have hln8 : ((ints s).drop (i + 1)).length = s.size - (i + 1) := by rw [List.length_drop, ints_len]
   revert a;refine pM 1 rfl (pL (pT (pS (pS (pG (pM 1 rfl (pP (p_len Tryz.underlying30 rfl) rfl (pP (p_gtr rfl rfl) rfl (pM 1 rfl ?_)))))))));intro a S
   refine l_split (S.of 26 rfl) (fun bc10 => ?_) (fun bc10 => ?_)
   ·
    have c10 := of_decide_eq_true bc10
    obtain ⟨go11, o11, rfl, hRo11⟩ := hsb7.get (i := 0) (by omega)
    revert a;refine pN bc10 (pP (p_move rfl) rfl (pN bc10 ?_));intro a S
    have hcon := word_ _ _ _ cb7 ((ints s).drop (i + 1)) (hRo11.old H) (by omega) (ints_by s _)
    revert a;refine pC Tryz.func43 hcon ?_
    rintro e w ⟨x1, rfl, hx1, hb⟩
    refine ⟨_, rfl, ?_⟩
    intro a S
    replace H := H.later hb; clear hcon hb
    revert a;refine pN bc10 (pP (p_and rfl rfl (and64 x1 9259542123273814144#64)) rfl (pN bc10 (pP (p_eql rfl rfl) rfl (pP (p_pick_t rfl bc10 rfl) rfl (pL (pT (zc rfl (fun bc14 => ?_) (fun bc14 => ?_))))))))
    ·
     intro a S
     have c14 := eq_of_beq bc14
     have hV9 : up.V s 0 = up.V s (i + 1 + 8) := hV1.trans (V_word hx1 c14 (by omega))
     revert a;refine pS (pG (pM 1 rfl ?_));intro a S
     have hsb15 := hsb7.drop (m := 8) (by omega)
     revert a;refine pP (p_slice rfl (o_some rfl) (fun _ _ => o_none) (fun _ _ => o_none) (fun w => sl_sb_lo (m := 8) Tryz.underlying30 sz5 rfl (by omega))) rfl ?_;intro a S
     rw [List.drop_drop] at S hsb15
     revert S; revert hsb15
     generalize cutAt _ _ 8 1 = Ab15
     generalize _ - 8 = cb15
     intro hsb15 S
     have hln16 : ((ints s).drop ((i + 1) + 8)).length = s.size - ((i + 1) + 8) := by rw [List.length_drop, ints_len]
     revert a;refine pM 1 rfl (pL (pT (pS ?_)));intro a S
     refine d_start (id := 8) [] 13 #[nn,nn,nn,nn,nn,nn,nn,nn,nn,nn,nn,nn,nn] H rfl rfl rfl (fun w H => ?_)
     revert a;refine qM [0] rfl (qP 1 rfl (p_len Tryz.underlying30 rfl) rfl (qP 2 rfl (p_gtr rfl rfl) rfl (qM [3] rfl ?_)));intro a S
     refine d_split (S.of 37 rfl) (fun bc18 => ?_) (fun bc18 => ?_)
     ·
      have c18 := of_decide_eq_true bc18
      obtain ⟨go19, o19, rfl, hRo19⟩ := hsb15.get (i := 0) (by omega)
      revert a;refine qW 4 rfl (p_move rfl) bc18 rfl (qW 6 rfl (p_move rfl) bc18 rfl ?_);intro a S
      have hsb20 := hsb15.drop (m := 8) (by omega)
      revert a;refine qW 7 rfl (p_slice rfl (o_some rfl) (fun _ _ => o_none) (fun _ _ => o_none) (fun w => sl_sb_lo (m := 8) Tryz.underlying30 sz5 rfl (by omega))) bc18 rfl ?_;intro a S
      rw [List.drop_drop] at S hsb20
      revert S; revert hsb20
      generalize cutAt _ _ 8 1 = Ab20
      generalize _ - 8 = cb20
      intro hsb20 S
      have hln21 : ((ints s).drop (((i + 1) + 8) + 8)).length = s.size - (((i + 1) + 8) + 8) := by rw [List.length_drop, ints_len]
      have hcon := word_ _ _ _ cb15 ((ints s).drop ((i + 1) + 8)) (hRo19.old H) (by omega) (ints_by s _)
      refine d_call (i := 5) #[yy,yy,yy,yy,yy,yy,yy,yy,nn,nn,nn,nn,nn] S rfl rfl rfl Tryz.func43 rfl rfl (hcon) (wanted_on S rfl rfl rfl rfl bc18) rfl rfl (by kernel_rfl) rfl ?_
      rintro e w ⟨x22, rfl, hx22, hb⟩
      refine ⟨_, rfl, H.later hb, ?_⟩; replace H := H.later hb; clear hb hcon;clear S a
      intro a S
      obtain ⟨go24, o24, rfl, hRo24⟩ := hsb20.get (i := 0) (by omega)
      have hcon := word_ _ _ _ cb20 ((ints s).drop (((i + 1) + 8) + 8)) (hRo24.old H) (by omega) (ints_by s _)
      refine d_call (i := 8) #[yy,yy,yy,yy,yy,yy,yy,yy,yy,nn,nn,nn,nn] S rfl rfl rfl Tryz.func43 rfl rfl (hcon) (wanted_on S rfl rfl rfl rfl bc18) rfl rfl (by kernel_rfl) rfl ?_
      rintro e w ⟨x23, rfl, hx23, hb⟩
      refine ⟨_, rfl, H.later hb, ?_⟩; replace H := H.later hb; clear hb hcon;clear S a
      refine qW 9 rfl (p_or rfl rfl (or64 x22 x23)) bc18 rfl (qW 10 rfl (p_and rfl rfl (and64 (x22 ||| x23) 9259542123273814144#64)) bc18 rfl (qW 11 rfl (p_eql rfl rfl) bc18 rfl (qP 12 rfl (p_pick_t rfl bc18 rfl) rfl (qD (pT (zc rfl (fun bc26 => ?_) (fun bc26 => ?_)))))))
      ·
       intro a S
       have c26 := eq_of_beq bc26
       obtain ⟨hm1, hm2⟩ := mask_or c26
       have hV25 : up.V s 0 = up.V s (i + 1 + 8 + 16) := (hV9.trans (V_word hx22 hm1 (by omega))).trans (V_word hx23 hm2 (by omega))
       revert a;refine pS (pG (pM 1 rfl ?_));intro a S
       have hsb27 := hsb15.drop (m := 16) (by omega)
       revert a;refine pP (p_slice rfl (o_some rfl) (fun _ _ => o_none) (fun _ _ => o_none) (fun w => sl_sb_lo (m := 16) Tryz.underlying30 sz5 rfl (by omega))) rfl ?_;intro a S
       rw [List.drop_drop] at S hsb27
       revert S; revert hsb27
       generalize cutAt _ _ 16 1 = Ab27
       generalize _ - 16 = cb27
       intro hsb27 S
       have hln28 : ((ints s).drop (((i + 1) + 8) + 16)).length = s.size - (((i + 1) + 8) + 16) := by rw [List.length_drop, ints_len]
       revert a;refine pM 1 rfl (pL (pT (pB ?_)));intro a S
       refine c_loop (σ := Nat × Option Addr × Nat) (fun s_ a w => match s_ with | ⟨j, A, c⟩ => SL a 188 [] [(0, .slice A ((ints s).drop j).length c)] ∧ HH (w0.heap.size) w0 w [] ∧ (i + 25 ≤ j ∧ j ≤ s.size ∧ up.V s 0 = up.V s j ∧ SB w0 A c ((ints s).drop j))) (fun s_ => match s_ with | ⟨j, A, c⟩ => s.size - j) ⟨(((i + 1) + 8) + 16), _, _⟩ ⟨S.only ⟨rfl, trivial⟩, H, ⟨by omega, by omega, hV25, hsb27⟩⟩ ?_
       clear S a H; rintro ⟨j, A, c⟩ a w ⟨S, H, hinv⟩
       obtain ⟨hij, hj, hVj, ht⟩ := hinv
       have hlj : ((ints s).drop j).length = s.size - j := by rw [List.length_drop, ints_len]
       revert a;refine pS (pS ?_);intro a S
       refine d_start (id := 10) [] 21 #[nn,nn,nn,nn,nn,nn,nn,nn,nn,nn,nn,nn,nn,nn,nn,nn,nn,nn,nn,nn,nn] H rfl rfl rfl (fun w H => ?_)
       revert a;refine qM [0] rfl (qP 1 rfl (p_len Tryz.underlying30 rfl) rfl (qP 2 rfl (p_gtr rfl rfl) rfl (qM [3] rfl ?_)));intro a S
       refine d_split (S.of 52 rfl) (fun bc30 => ?_) (fun bc30 => ?_)
       ·
        have c30 := of_decide_eq_true bc30
        obtain ⟨go31, o31, rfl, hRo31⟩ := ht.get (i := 0) (by omega)
        revert a;refine qW 4 rfl (p_move rfl) bc30 rfl (qW 6 rfl (p_move rfl) bc30 rfl ?_);intro a S
        have hsb32 := ht.drop (m := 8) (by omega)
        revert a;refine qW 7 rfl (p_slice rfl (o_some rfl) (fun _ _ => o_none) (fun _ _ => o_none) (fun w => sl_sb_lo (m := 8) Tryz.underlying30 sz5 rfl (by omega))) bc30 rfl ?_;intro a S
        rw [List.drop_drop] at S hsb32
        revert S; revert hsb32
        generalize cutAt _ _ 8 1 = Ab32
        generalize _ - 8 = cb32
        intro hsb32 S
        have hln33 : ((ints s).drop (j + 8)).length = s.size - (j + 8) := by rw [List.length_drop, ints_len]
        revert a;refine qW 10 rfl (p_move rfl) bc30 rfl ?_;intro a S
        have hsb34 := ht.drop (m := 16) (by omega)
        revert a;refine qW 11 rfl (p_slice rfl (o_some rfl) (fun _ _ => o_none) (fun _ _ => o_none) (fun w => sl_sb_lo (m := 16) Tryz.underlying30 sz5 rfl (by omega))) bc30 rfl ?_;intro a S
        rw [List.drop_drop] at S hsb34
        revert S; revert hsb34
        generalize cutAt _ _ 16 1 = Ab34
        generalize _ - 16 = cb34
        intro hsb34 S
        have hln35 : ((ints s).drop (j + 16)).length = s.size - (j + 16) := by rw [List.length_drop, ints_len]
        revert a;refine qW 13 rfl (p_move rfl) bc30 rfl ?_;intro a S
        have hsb36 := ht.drop (m := 24) (by omega)
        revert a;refine qW 14 rfl (p_slice rfl (o_some rfl) (fun _ _ => o_none) (fun _ _ => o_none) (fun w => sl_sb_lo (m := 24) Tryz.underlying30 sz5 rfl (by omega))) bc30 rfl ?_;intro a S
        rw [List.drop_drop] at S hsb36
        revert S; revert hsb36
        generalize cutAt _ _ 24 1 = Ab36
        generalize _ - 24 = cb36
        intro hsb36 S
        have hln37 : ((ints s).drop (j + 24)).length = s.size - (j + 24) := by rw [List.length_drop, ints_len]
        have hcon := word_ _ _ _ c ((ints s).drop j) (hRo31.old H) (by omega) (ints_by s _)
        refine d_call (i := 5) #[yy,yy,yy,yy,yy,yy,yy,yy,nn,nn,yy,yy,nn,yy,yy,nn,nn,nn,nn,nn,nn] S rfl rfl rfl Tryz.func43 rfl rfl (hcon) (wanted_on S rfl rfl rfl rfl bc30) rfl rfl (by kernel_rfl) rfl ?_
        rintro e w ⟨x38, rfl, hx38, hb⟩
        refine ⟨_, rfl, H.later hb, ?_⟩; replace H := H.later hb; clear hb hcon;clear S a
        intro a S
        obtain ⟨go40, o40, rfl, hRo40⟩ := hsb32.get (i := 0) (by omega)
        have hcon := word_ _ _ _ cb32 ((ints s).drop (j + 8)) (hRo40.old H) (by omega) (ints_by s _)
        refine d_call (i := 8) #[yy,yy,yy,yy,yy,yy,yy,yy,yy,nn,yy,yy,nn,yy,yy,nn,nn,nn,nn,nn,nn] S rfl rfl rfl Tryz.func43 rfl rfl (hcon) (wanted_on S rfl rfl rfl rfl bc30) rfl rfl (by kernel_rfl) rfl ?_
        rintro e w ⟨x39, rfl, hx39, hb⟩
        refine ⟨_, rfl, H.later hb, ?_⟩; replace H := H.later hb; clear hb hcon;clear S a
        refine qW 9 rfl (p_or rfl rfl (or64 x38 x39)) bc30 rfl ?_;intro a S
        obtain ⟨go42, o42, rfl, hRo42⟩ := hsb34.get (i := 0) (by omega)
        have hcon := word_ _ _ _ cb34 ((ints s).drop (j + 16)) (hRo42.old H) (by omega) (ints_by s _)
        refine d_call (i := 12) #[yy,yy,yy,yy,yy,yy,yy,yy,yy,yy,yy,yy,yy,yy,yy,nn,nn,nn,nn,nn,nn] S rfl rfl rfl Tryz.func43 rfl rfl (hcon) (wanted_on S rfl rfl rfl rfl bc30) rfl rfl (by kernel_rfl) rfl ?_
        rintro e w ⟨x41, rfl, hx41, hb⟩
        refine ⟨_, rfl, H.later hb, ?_⟩; replace H := H.later hb; clear hb hcon;clear S a
        intro a S
        obtain ⟨go44, o44, rfl, hRo44⟩ := hsb36.get (i := 0) (by omega)
        have hcon := word_ _ _ _ cb36 ((ints s).drop (j + 24)) (hRo44.old H) (by omega) (ints_by s _)
        refine d_call (i := 15) #[yy,yy,yy,yy,yy,yy,yy,yy,yy,yy,yy,yy,yy,yy,yy,yy,nn,nn,nn,nn,nn] S rfl rfl rfl Tryz.func43 rfl rfl (hcon) (wanted_on S rfl rfl rfl rfl bc30) rfl rfl (by kernel_rfl) rfl ?_
        rintro e w ⟨x43, rfl, hx43, hb⟩
        refine ⟨_, rfl, H.later hb, ?_⟩; replace H := H.later hb; clear hb hcon;clear S a
        refine qW 16 rfl (p_or rfl rfl (or64 x41 x43)) bc30 rfl (qW 17 rfl (p_or rfl rfl (or64 (x38 ||| x39) (x41 ||| x43))) bc30 rfl (qW 18 rfl (p_and rfl rfl (and64 ((x38 ||| x39) ||| (x41 ||| x43)) 9259542123273814144#64)) bc30 rfl (qW 19 rfl (p_eql rfl rfl) bc30 rfl (qP 20 rfl (p_pick_t rfl bc30 rfl) rfl (qD (pT (zc rfl (fun bc46 => ?_) (fun bc46 => ?_))))))))
        ·
         intro a S
         have c46 := eq_of_beq bc46
         obtain ⟨hm12, hm34⟩ := mask_or c46
         obtain ⟨hm1, hm2⟩ := mask_or hm12
         obtain ⟨hm3, hm4⟩ := mask_or hm34
         have hVj2 : up.V s 0 = up.V s (j + 32) := (((hVj.trans (V_word hx38 hm1 (by omega))).trans (V_word hx39 hm2 (by omega))).trans (V_word hx41 hm3 (by omega))).trans (V_word hx43 hm4 (by omega))
         revert a;refine pK (pT (pB (pG (pM 1 rfl ?_))));intro a S
         have hsb47 := ht.drop (m := 32) (by omega)
         revert a;refine pP (p_slice rfl (o_some rfl) (fun _ _ => o_none) (fun _ _ => o_none) (fun w => sl_sb_lo (m := 32) Tryz.underlying30 sz5 rfl (by omega))) rfl ?_;intro a S
         rw [List.drop_drop] at S hsb47
         revert S; revert hsb47
         generalize cutAt _ _ 32 1 = Ab47
         generalize _ - 32 = cb47
         intro hsb47 S
         have hln48 : ((ints s).drop (j + 32)).length = s.size - (j + 32) := by rw [List.length_drop, ints_len]
         revert a;refine pM 1 rfl (pL (pI 3 (pT ?_)));intro a S
         exact ⟨⟨(j + 32), _, _⟩, ⟨S.only ⟨rfl, trivial⟩, H, ⟨by omega, by omega, hVj2, hsb47⟩⟩, (show s.size - (j + 32) < s.size - j from by omega)⟩
        intro a S
        have c46 := ne_of_beq_false bc46
        revert a;refine pX (pV (pV (pW (pT (pX (pV (pW (pT ?_))))))));intro a S
        exact ⟨⟨j, _, _⟩, ⟨S.only ⟨rfl, trivial⟩, H, ⟨by omega, hVj, ht⟩⟩, (show s.size - j < s.size - i from by omega)⟩
       have c30 := of_decide_eq_false bc30
       revert a;refine qO 4 rfl bc30 rfl (qO 6 rfl bc30 rfl (qO 7 rfl bc30 rfl (qO 10 rfl bc30 rfl (qO 11 rfl bc30 rfl (qO 13 rfl bc30 rfl (qO 14 rfl bc30 rfl (qO 5 rfl bc30 rfl (qO 8 rfl bc30 rfl (qO 9 rfl bc30 rfl (qO 12 rfl bc30 rfl (qO 15 rfl bc30 rfl (qO 16 rfl bc30 rfl (qO 17 rfl bc30 rfl (qO 18 rfl bc30 rfl (qO 19 rfl bc30 rfl (qP 20 rfl (p_pick_f rfl bc30 rfl) rfl (qD (pT (zf (pX (pV (pV (pW (pT (pX (pV (pW (pT ?_))))))))))))))))))))))))))));intro a S
       exact ⟨⟨j, _, _⟩, ⟨S.only ⟨rfl, trivial⟩, H, ⟨by omega, hVj, ht⟩⟩, (show s.size - j < s.size - i from by omega)⟩
      intro a S
      have c26 := ne_of_beq_false bc26
      revert a;refine pK (pT (pX (pV (pW (pT ?_)))));intro a S
      exact ⟨⟨((i + 1) + 8), _, _⟩, ⟨S.only ⟨rfl, trivial⟩, H, ⟨by omega, hV9, hsb15⟩⟩, (show s.size - ((i + 1) + 8) < s.size - i from by omega)⟩
     have c18 := of_decide_eq_false bc18
     revert a;refine qO 4 rfl bc18 rfl (qO 6 rfl bc18 rfl (qO 7 rfl bc18 rfl (qO 5 rfl bc18 rfl (qO 8 rfl bc18 rfl (qO 9 rfl bc18 rfl (qO 10 rfl bc18 rfl (qO 11 rfl bc18 rfl (qP 12 rfl (p_pick_f rfl bc18 rfl) rfl (qD (pT (zf (pK (pT (pX (pV (pW (pT ?_)))))))))))))))));intro a S
     exact ⟨⟨((i + 1) + 8), _, _⟩, ⟨S.only ⟨rfl, trivial⟩, H, ⟨by omega, hV9, hsb15⟩⟩, (show s.size - ((i + 1) + 8) < s.size - i from by omega)⟩
    intro a S
    have c14 := ne_of_beq_false bc14
    revert a;refine pK (pT (pX (pV (pW (pT ?_)))));intro a S
    exact ⟨⟨(i + 1), _, _⟩, ⟨S.only ⟨rfl, trivial⟩, H, ⟨by omega, hV1, hsb7⟩⟩, (show s.size - (i + 1) < s.size - i from by omega)⟩
   have c10 := of_decide_eq_false bc10
   revert a;refine pO bc10 rfl (pO bc10 rfl (pO bc10 rfl (pO bc10 rfl (pP (p_pick_f rfl bc10 rfl) rfl (pL (pT (zf (pK (pT (pX (pV (pW (pT ?_)))))))))))));intro a S
   exact ⟨⟨(i + 1), _, _⟩, ⟨S.only ⟨rfl, trivial⟩, H, ⟨by omega, hV1, hsb7⟩⟩, (show s.size - (i + 1) < s.size - i from by omega)⟩
  intro a S
  have c6 := of_decide_eq_false bc6
  revert a;refine pK (pT (pS (pG (pM 1 rfl (pP (p_indexAddr rfl rfl (fun w => ia_array Tryz.underlying83 sz5 (by omega) (by omega))) rfl (pR H (r_tab (i := (HHW.bt s (i : Int)).toNat) rfl (by omega) (hT.1 _ (by omega)) rfl ag5) rfl ?_))))));intro a S
  have hlead := up.V_lead (s := s) (i := i) (by omega) (by omega)
  have hfl := firstT_lt (HHW.bt s (i : Int)).toNat
  revert S hlead hfl
  generalize Lib.firstT (HHW.bt s (i : Int)).toNat = f
  intro S hlead hfl
  revert a;refine pM 1 rfl (pL (pT (pS (pG (pM 1 rfl (pP (p_and (r := ((f % 8 : Nat) : Int)) rfl rfl (and7 ⟨f, hfl⟩)) rfl (pP (p_conv rfl (fun w => cv_int (Tryz.underlying5) (Tryz.underlying3) (r := ((f % 8 : Nat) : Int)) (IntWalk.i64_in _ (by omega)))) rfl (pM 1 rfl (pL (pT (pS (pG (pM 1 rfl (pP (p_shr (r := ((f / 16 : Nat) : Int)) rfl rfl (by decide) (shr4 f)) rfl (pP (p_indexAddr rfl rfl (fun w => ia_array Tryz.underlying86 sz85 (by omega) (by omega))) rfl (pR H (r_pairG (i := 2 * (f / 16)) rfl (by omega) (hT.2 (f / 16) (by omega)).1 (hT.2 (f / 16) (by omega)).2 rfl ag85 sz85) rfl ?_))))))))))))))));intro a S
  refine l_alloc (cs := #[.int .u8 0, .int .u8 0]) S H rfl (fun w => al zv85) rfl rfl rfl ?_; clear S a H; intro g55 w a H S
  revert a;refine pF [.int .u8 ((Lib.accLo (f / 16) : Nat) : Int), .int .u8 ((Lib.accHi (f / 16) : Nat) : Int)] H rfl rfl sz85 .here ?_;clear H;intro w H
  refine pL (pT (pS (pG (pM 1 rfl (pL (pT (pB (pS (pG (pP (p_eql rfl rfl) rfl (pM 1 rfl (pL (pT (zc rfl (fun bc57 => ?_) (fun bc57 => ?_)))))))))))))))
  ·
   intro a S
   have c57 := eq_of_beq bc57
   revert a;refine pS (pS ?_);intro a S
   refine d_start (id := 18) [] 19 #[nn,nn,nn,nn,nn,nn,nn,nn,nn,nn,nn,nn,nn,nn,nn,nn,nn,nn,nn] H rfl rfl rfl (fun w H => ?_)
   revert a;refine qM [0] rfl (qP 1 rfl (p_len Tryz.underlying30 rfl) rfl (qP 2 rfl (p_lss rfl rfl) rfl (qM [3] rfl ?_)));intro a S
   refine d_split (S.of 88 rfl) (fun bc59 => ?_) (fun bc59 => ?_)
   ·
    have c59 := of_decide_eq_true bc59
    revert a;refine qO 4 rfl bc59 rfl (qO 5 rfl bc59 rfl (qO 6 rfl bc59 rfl (qO 7 rfl bc59 rfl (qO 8 rfl bc59 rfl (qO 9 rfl bc59 rfl (qP 10 rfl (p_pick_t rfl bc59 rfl) rfl (qM [11] rfl (qO 12 rfl rfl rfl (qO 13 rfl rfl rfl (qO 14 rfl rfl rfl (qO 15 rfl rfl rfl (qO 16 rfl rfl rfl (qO 17 rfl rfl rfl (qP 18 rfl (p_pick_t rfl rfl rfl) rfl (qD (pT (zt (pS (pG (pM 1 rfl (pL (pT (pZ (pU (pJ (pJ (pU (pJ (pU ?_)))))))))))))))))))))))))))));intro a S
    have hbad : up.V s i = false := by
     have e1 : Lib.checkN (s.size - i) (HHW.bt s ((i + 1 : Nat) : Int)).toNat (HHW.bt s ((i + 2 : Nat) : Int)).toNat (HHW.bt s ((i + 3 : Nat) : Int)).toNat (f % 8) (Lib.accLo (f / 16)) (Lib.accHi (f / 16)) = none := by
      unfold Lib.checkN; repeat' split
      all_goals first | rfl | (exfalso; omega)
     rw [hlead, e1]
    exact r_ret1 S rfl rfl ⟨by rw [hV, hbad], H.below⟩
   have c59 := of_decide_eq_false bc59
   revert a;refine qW 4 rfl (p_move rfl) bc59 rfl (qW 5 rfl (p_indexAddr rfl rfl (fun w => ia_slice Tryz.underlying30 sz5 (by omega) (by omega))) bc59 rfl (qV 6 H rfl (r_byte (l := ((ints s).drop i)) (i := 1) (v := HHW.bt s ((i + 1 : Nat) : Int)) rfl (by omega) ag5 hRo4 rfl (int_at s rfl (by omega))) bc59 rfl (qX 7 fa85_0 rfl rfl rfl bc59 rfl (qF 8 H rfl rfl rfl m0 rfl ag5 bc59 rfl (qW 9 rfl (p_lss rfl rfl) bc59 rfl (qP 10 rfl (p_pick_f rfl bc59 rfl) rfl (qM [11] rfl ?_)))))));intro a S
   refine d_split (S.of 96 rfl) (fun bc65 => ?_) (fun bc65 => ?_)
   ·
    have c65 := of_decide_eq_true bc65
    revert a;refine qO 12 rfl bc65 rfl (qO 13 rfl bc65 rfl (qO 14 rfl bc65 rfl (qO 15 rfl bc65 rfl (qO 16 rfl bc65 rfl (qO 17 rfl bc65 rfl (qP 18 rfl (p_pick_t rfl bc65 rfl) rfl (qD (pT (zt (pS (pG (pM 1 rfl (pL (pT (pZ (pU (pJ (pJ (pU (pJ (pU ?_)))))))))))))))))))));intro a S
    have hbad : up.V s i = false := by
     have e1 : Lib.checkN (s.size - i) (HHW.bt s ((i + 1 : Nat) : Int)).toNat (HHW.bt s ((i + 2 : Nat) : Int)).toNat (HHW.bt s ((i + 3 : Nat) : Int)).toNat (f % 8) (Lib.accLo (f / 16)) (Lib.accHi (f / 16)) = none := by
      unfold Lib.checkN; repeat' split
      all_goals first | rfl | (exfalso; omega)
     rw [hlead, e1]
    exact r_ret1 S rfl rfl ⟨by rw [hV, hbad], H.below⟩
   have c65 := of_decide_eq_false bc65
   revert a;refine qX 12 fa85_1 rfl rfl rfl bc65 rfl (qF 13 H rfl rfl rfl m0 rfl ag5 bc65 rfl (qW 14 rfl (p_move rfl) bc65 rfl (qW 15 rfl (p_indexAddr rfl rfl (fun w => ia_slice Tryz.underlying30 sz5 (by omega) (by omega))) bc65 rfl (qV 16 H rfl (r_byte (l := ((ints s).drop i)) (i := 1) (v := HHW.bt s ((i + 1 : Nat) : Int)) rfl (by omega) ag5 hRo4 rfl (int_at s rfl (by omega))) bc65 rfl (qW 17 rfl (p_lss rfl rfl) bc65 rfl (qP 18 rfl (p_pick_f rfl bc65 rfl) rfl (qD (pT (zc rfl (fun bc70 => ?_) (fun bc70 => ?_))))))))))
   ·
    intro a S
    have c70 := of_decide_eq_true bc70
    revert a;refine pS (pG (pM 1 rfl (pL (pT (pZ (pU (pJ (pJ (pU (pJ (pU ?_)))))))))));intro a S
    have hbad : up.V s i = false := by
     have e1 : Lib.checkN (s.size - i) (HHW.bt s ((i + 1 : Nat) : Int)).toNat (HHW.bt s ((i + 2 : Nat) : Int)).toNat (HHW.bt s ((i + 3 : Nat) : Int)).toNat (f % 8) (Lib.accLo (f / 16)) (Lib.accHi (f / 16)) = none := by
      unfold Lib.checkN; repeat' split
      all_goals first | rfl | (exfalso; omega)
     rw [hlead, e1]
    exact r_ret1 S rfl rfl ⟨by rw [hV, hbad], H.below⟩
   intro a S
   have c70 := of_decide_eq_false bc70
   revert a;refine pK (pT (pG (pM 1 rfl ?_)));intro a S
   have hVk : up.V s 0 = up.V s (i + 2) := hV.trans (hlead.trans (by unfold Lib.checkN; simp only [show f % 8 = 2 by omega, if_true, if_false, Nat.reduceEqDiff]; rw [if_neg (by omega)]))
   have hsb72 := hq.drop (m := 2) (by omega)
   revert a;refine pP (p_slice rfl (o_some rfl) (fun _ _ => o_none) (fun _ _ => o_none) (fun w => sl_sb_lo (m := 2) Tryz.underlying30 sz5 rfl (by omega))) rfl ?_;intro a S
   rw [List.drop_drop] at S hsb72
   revert S; revert hsb72
   generalize cutAt _ _ 2 1 = Ab72
   generalize _ - 2 = cb72
   intro hsb72 S
   have hln73 : ((ints s).drop (i + 2)).length = s.size - (i + 2) := by rw [List.length_drop, ints_len]
   revert a;refine pM 1 rfl (pL (pI 4 (pI 1 (pT ?_))));intro a S
   exact ⟨⟨(i + 2), _, _⟩, ⟨S.only ⟨rfl, trivial⟩, H.tail, ⟨by omega, hVk, hsb72⟩⟩, (show s.size - (i + 2) < s.size - i from by omega)⟩
  intro a S
  have c57 := ne_of_beq_false bc57
  revert a;refine pS (pG (pP (p_eql rfl rfl) rfl (pM 1 rfl (pL (pT (zc rfl (fun bc75 => ?_) (fun bc75 => ?_)))))))
  ·
   intro a S
   have c75 := eq_of_beq bc75
   revert a;refine pS (pS ?_);intro a S
   refine d_start (id := 22) [] 31 #[nn,nn,nn,nn,nn,nn,nn,nn,nn,nn,nn,nn,nn,nn,nn,nn,nn,nn,nn,nn,nn,nn,nn,nn,nn,nn,nn,nn,nn,nn,nn] H rfl rfl rfl (fun w H => ?_)
   revert a;refine qM [0] rfl (qP 1 rfl (p_len Tryz.underlying30 rfl) rfl (qP 2 rfl (p_lss rfl rfl) rfl (qM [3] rfl ?_)));intro a S
   refine d_split (S.of 111 rfl) (fun bc77 => ?_) (fun bc77 => ?_)
   ·
    have c77 := of_decide_eq_true bc77
    revert a;refine qO 4 rfl bc77 rfl (qO 5 rfl bc77 rfl (qO 6 rfl bc77 rfl (qO 7 rfl bc77 rfl (qO 8 rfl bc77 rfl (qO 9 rfl bc77 rfl (qP 10 rfl (p_pick_t rfl bc77 rfl) rfl (qM [11] rfl (qO 12 rfl rfl rfl (qO 13 rfl rfl rfl (qO 14 rfl rfl rfl (qO 15 rfl rfl rfl (qO 16 rfl rfl rfl (qO 17 rfl rfl rfl (qP 18 rfl (p_pick_t rfl rfl rfl) rfl (qM [19] rfl (qO 20 rfl rfl rfl (qO 21 rfl rfl rfl (qO 22 rfl rfl rfl (qO 23 rfl rfl rfl (qP 24 rfl (p_pick_t rfl rfl rfl) rfl (qM [25] rfl (qO 26 rfl rfl rfl (qO 27 rfl rfl rfl (qO 28 rfl rfl rfl (qO 29 rfl rfl rfl (qP 30 rfl (p_pick_t rfl rfl rfl) rfl (qD (pT (zt (pS (pG (pM 1 rfl (pL (pT (pZ (pU (pJ (pJ (pU (pJ (pU ?_)))))))))))))))))))))))))))))))))))))))));intro a S
    have hbad : up.V s i = false := by
     have e1 : Lib.checkN (s.size - i) (HHW.bt s ((i + 1 : Nat) : Int)).toNat (HHW.bt s ((i + 2 : Nat) : Int)).toNat (HHW.bt s ((i + 3 : Nat) : Int)).toNat (f % 8) (Lib.accLo (f / 16)) (Lib.accHi (f / 16)) = none := by
      unfold Lib.checkN; repeat' split
      all_goals first | rfl | (exfalso; omega)
     rw [hlead, e1]
    exact r_ret1 S rfl rfl ⟨by rw [hV, hbad], H.below⟩
   have c77 := of_decide_eq_false bc77
   revert a;refine qW 4 rfl (p_move rfl) bc77 rfl (qW 5 rfl (p_indexAddr rfl rfl (fun w => ia_slice Tryz.underlying30 sz5 (by omega) (by omega))) bc77 rfl (qV 6 H rfl (r_byte (l := ((ints s).drop i)) (i := 1) (v := HHW.bt s ((i + 1 : Nat) : Int)) rfl (by omega) ag5 hRo4 rfl (int_at s rfl (by omega))) bc77 rfl (qX 7 fa85_0 rfl rfl rfl bc77 rfl (qF 8 H rfl rfl rfl m0 rfl ag5 bc77 rfl (qW 9 rfl (p_lss rfl rfl) bc77 rfl (qP 10 rfl (p_pick_f rfl bc77 rfl) rfl (qM [11] rfl ?_)))))));intro a S
   refine d_split (S.of 119 rfl) (fun bc85 => ?_) (fun bc85 => ?_)
   ·
    have c85 := of_decide_eq_true bc85
    revert a;refine qO 12 rfl bc85 rfl (qO 13 rfl bc85 rfl (qO 14 rfl bc85 rfl (qO 15 rfl bc85 rfl (qO 16 rfl bc85 rfl (qO 17 rfl bc85 rfl (qP 18 rfl (p_pick_t rfl bc85 rfl) rfl (qM [19] rfl (qO 20 rfl rfl rfl (qO 21 rfl rfl rfl (qO 22 rfl rfl rfl (qO 23 rfl rfl rfl (qP 24 rfl (p_pick_t rfl rfl rfl) rfl (qM [25] rfl (qO 26 rfl rfl rfl (qO 27 rfl rfl rfl (qO 28 rfl rfl rfl (qO 29 rfl rfl rfl (qP 30 rfl (p_pick_t rfl rfl rfl) rfl (qD (pT (zt (pS (pG (pM 1 rfl (pL (pT (pZ (pU (pJ (pJ (pU (pJ (pU ?_)))))))))))))))))))))))))))))))));intro a S
    have hbad : up.V s i = false := by
     have e1 : Lib.checkN (s.size - i) (HHW.bt s ((i + 1 : Nat) : Int)).toNat (HHW.bt s ((i + 2 : Nat) : Int)).toNat (HHW.bt s ((i + 3 : Nat) : Int)).toNat (f % 8) (Lib.accLo (f / 16)) (Lib.accHi (f / 16)) = none := by
      unfold Lib.checkN; repeat' split
      all_goals first | rfl | (exfalso; omega)
     rw [hlead, e1]
    exact r_ret1 S rfl rfl ⟨by rw [hV, hbad], H.below⟩
   have c85 := of_decide_eq_false bc85
   revert a;refine qX 12 fa85_1 rfl rfl rfl bc85 rfl (qF 13 H rfl rfl rfl m0 rfl ag5 bc85 rfl (qW 14 rfl (p_move rfl) bc85 rfl (qW 15 rfl (p_indexAddr rfl rfl (fun w => ia_slice Tryz.underlying30 sz5 (by omega) (by omega))) bc85 rfl (qV 16 H rfl (r_byte (l := ((ints s).drop i)) (i := 1) (v := HHW.bt s ((i + 1 : Nat) : Int)) rfl (by omega) ag5 hRo4 rfl (int_at s rfl (by omega))) bc85 rfl (qW 17 rfl (p_lss rfl rfl) bc85 rfl (qP 18 rfl (p_pick_f rfl bc85 rfl) rfl (qM [19] rfl ?_)))))));intro a S
   refine d_split (S.of 127 rfl) (fun bc92 => ?_) (fun bc92 => ?_)
   ·
    have c92 := of_decide_eq_true bc92
    revert a;refine qO 20 rfl bc92 rfl (qO 21 rfl bc92 rfl (qO 22 rfl bc92 rfl (qO 23 rfl bc92 rfl (qP 24 rfl (p_pick_t rfl bc92 rfl) rfl (qM [25] rfl (qO 26 rfl rfl rfl (qO 27 rfl rfl rfl (qO 28 rfl rfl rfl (qO 29 rfl rfl rfl (qP 30 rfl (p_pick_t rfl rfl rfl) rfl (qD (pT (zt (pS (pG (pM 1 rfl (pL (pT (pZ (pU (pJ (pJ (pU (pJ (pU ?_)))))))))))))))))))))))));intro a S
    have hbad : up.V s i = false := by
     have e1 : Lib.checkN (s.size - i) (HHW.bt s ((i + 1 : Nat) : Int)).toNat (HHW.bt s ((i + 2 : Nat) : Int)).toNat (HHW.bt s ((i + 3 : Nat) : Int)).toNat (f % 8) (Lib.accLo (f / 16)) (Lib.accHi (f / 16)) = none := by
      unfold Lib.checkN; repeat' split
      all_goals first | rfl | (exfalso; omega)
     rw [hlead, e1]
    exact r_ret1 S rfl rfl ⟨by rw [hV, hbad], H.below⟩
   have c92 := of_decide_eq_false bc92
   revert a;refine qW 20 rfl (p_move rfl) bc92 rfl (qW 21 rfl (p_indexAddr rfl rfl (fun w => ia_slice Tryz.underlying30 sz5 (by omega) (by omega))) bc92 rfl (qV 22 H rfl (r_byte (l := ((ints s).drop i)) (i := 2) (v := HHW.bt s ((i + 2 : Nat) : Int)) rfl (by omega) ag5 hRo4 rfl (int_at s rfl (by omega))) bc92 rfl (qW 23 rfl (p_lss rfl rfl) bc92 rfl (qP 24 rfl (p_pick_f rfl bc92 rfl) rfl (qM [25] rfl ?_)))));intro a S
   refine d_split (S.of 133 rfl) (fun bc98 => ?_) (fun bc98 => ?_)
   ·
    have c98 := of_decide_eq_true bc98
    revert a;refine qO 26 rfl bc98 rfl (qO 27 rfl bc98 rfl (qO 28 rfl bc98 rfl (qO 29 rfl bc98 rfl (qP 30 rfl (p_pick_t rfl bc98 rfl) rfl (qD (pT (zt (pS (pG (pM 1 rfl (pL (pT (pZ (pU (pJ (pJ (pU (pJ (pU ?_)))))))))))))))))));intro a S
    have hbad : up.V s i = false := by
     have e1 : Lib.checkN (s.size - i) (HHW.bt s ((i + 1 : Nat) : Int)).toNat (HHW.bt s ((i + 2 : Nat) : Int)).toNat (HHW.bt s ((i + 3 : Nat) : Int)).toNat (f % 8) (Lib.accLo (f / 16)) (Lib.accHi (f / 16)) = none := by
      unfold Lib.checkN; repeat' split
      all_goals first | rfl | (exfalso; omega)
     rw [hlead, e1]
    exact r_ret1 S rfl rfl ⟨by rw [hV, hbad], H.below⟩
   have c98 := of_decide_eq_false bc98
   revert a;refine qW 26 rfl (p_move rfl) bc98 rfl (qW 27 rfl (p_indexAddr rfl rfl (fun w => ia_slice Tryz.underlying30 sz5 (by omega) (by omega))) bc98 rfl (qV 28 H rfl (r_byte (l := ((ints s).drop i)) (i := 2) (v := HHW.bt s ((i + 2 : Nat) : Int)) rfl (by omega) ag5 hRo4 rfl (int_at s rfl (by omega))) bc98 rfl (qW 29 rfl (p_lss rfl rfl) bc98 rfl (qP 30 rfl (p_pick_f rfl bc98 rfl) rfl (qD (pT (zc rfl (fun bc103 => ?_) (fun bc103 => ?_))))))))
   ·
    intro a S
    have c103 := of_decide_eq_true bc103
    revert a;refine pS (pG (pM 1 rfl (pL (pT (pZ (pU (pJ (pJ (pU (pJ (pU ?_)))))))))));intro a S
    have hbad : up.V s i = false := by
     have e1 : Lib.checkN (s.size - i) (HHW.bt s ((i + 1 : Nat) : Int)).toNat (HHW.bt s ((i + 2 : Nat) : Int)).toNat (HHW.bt s ((i + 3 : Nat) : Int)).toNat (f % 8) (Lib.accLo (f / 16)) (Lib.accHi (f / 16)) = none := by
      unfold Lib.checkN; repeat' split
      all_goals first | rfl | (exfalso; omega)
     rw [hlead, e1]
    exact r_ret1 S rfl rfl ⟨by rw [hV, hbad], H.below⟩
   intro a S
   have c103 := of_decide_eq_false bc103
   revert a;refine pK (pT (pG (pM 1 rfl ?_)));intro a S
   have hVk : up.V s 0 = up.V s (i + 3) := hV.trans (hlead.trans (by unfold Lib.checkN; simp only [show f % 8 = 3 by omega, if_true, if_false, Nat.reduceEqDiff]; rw [if_neg (by omega)]))
   have hsb105 := hq.drop (m := 3) (by omega)
   revert a;refine pP (p_slice rfl (o_some rfl) (fun _ _ => o_none) (fun _ _ => o_none) (fun w => sl_sb_lo (m := 3) Tryz.underlying30 sz5 rfl (by omega))) rfl ?_;intro a S
   rw [List.drop_drop] at S hsb105
   revert S; revert hsb105
   generalize cutAt _ _ 3 1 = Ab105
   generalize _ - 3 = cb105
   intro hsb105 S
   have hln106 : ((ints s).drop (i + 3)).length = s.size - (i + 3) := by rw [List.length_drop, ints_len]
   revert a;refine pM 1 rfl (pL (pI 4 (pI 1 (pT ?_))));intro a S
   exact ⟨⟨(i + 3), _, _⟩, ⟨S.only ⟨rfl, trivial⟩, H.tail, ⟨by omega, hVk, hsb105⟩⟩, (show s.size - (i + 3) < s.size - i from by omega)⟩
  intro a S
  have c75 := ne_of_beq_false bc75
  revert a;refine pS (pG (pP (p_eql rfl rfl) rfl (pM 1 rfl (pL (pT (zc rfl (fun bc108 => ?_) (fun bc108 => ?_)))))))
  ·
   intro a S
   have c108 := eq_of_beq bc108
   revert a;refine pS (pS ?_);intro a S
   refine d_start (id := 26) [] 43 #[nn,nn,nn,nn,nn,nn,nn,nn,nn,nn,nn,nn,nn,nn,nn,nn,nn,nn,nn,nn,nn,nn,nn,nn,nn,nn,nn,nn,nn,nn,nn,nn,nn,nn,nn,nn,nn,nn,nn,nn,nn,nn,nn] H rfl rfl rfl (fun w H => ?_)
   revert a;refine qM [0] rfl (qP 1 rfl (p_len Tryz.underlying30 rfl) rfl (qP 2 rfl (p_lss rfl rfl) rfl (qM [3] rfl ?_)));intro a S
   refine d_split (S.of 146 rfl) (fun bc110 => ?_) (fun bc110 => ?_)
   ·
    have c110 := of_decide_eq_true bc110
    revert a;refine qO 4 rfl bc110 rfl (qO 5 rfl bc110 rfl (qO 6 rfl bc110 rfl (qO 7 rfl bc110 rfl (qO 8 rfl bc110 rfl (qO 9 rfl bc110 rfl (qP 10 rfl (p_pick_t rfl bc110 rfl) rfl (qM [11] rfl (qO 12 rfl rfl rfl (qO 13 rfl rfl rfl (qO 14 rfl rfl rfl (qO 15 rfl rfl rfl (qO 16 rfl rfl rfl (qO 17 rfl rfl rfl (qP 18 rfl (p_pick_t rfl rfl rfl) rfl (qM [19] rfl (qO 20 rfl rfl rfl (qO 21 rfl rfl rfl (qO 22 rfl rfl rfl (qO 23 rfl rfl rfl (qP 24 rfl (p_pick_t rfl rfl rfl) rfl (qM [25] rfl (qO 26 rfl rfl rfl (qO 27 rfl rfl rfl (qO 28 rfl rfl rfl (qO 29 rfl rfl rfl (qP 30 rfl (p_pick_t rfl rfl rfl) rfl (qM [31] rfl (qO 32 rfl rfl rfl (qO 33 rfl rfl rfl (qO 34 rfl rfl rfl (qO 35 rfl rfl rfl (qP 36 rfl (p_pick_t rfl rfl rfl) rfl (qM [37] rfl (qO 38 rfl rfl rfl (qO 39 rfl rfl rfl (qO 40 rfl rfl rfl (qO 41 rfl rfl rfl (qP 42 rfl (p_pick_t rfl rfl rfl) rfl (qD (pT (zt (pS (pG (pM 1 rfl (pL (pT (pZ (pU (pJ (pJ (pU (pJ (pU ?_)))))))))))))))))))))))))))))))))))))))))))))))))))));intro a S
    have hbad : up.V s i = false := by
     have e1 : Lib.checkN (s.size - i) (HHW.bt s ((i + 1 : Nat) : Int)).toNat (HHW.bt s ((i + 2 : Nat) : Int)).toNat (HHW.bt s ((i + 3 : Nat) : Int)).toNat (f % 8) (Lib.accLo (f / 16)) (Lib.accHi (f / 16)) = none := by
      unfold Lib.checkN; repeat' split
      all_goals first | rfl | (exfalso; omega)
     rw [hlead, e1]
    exact r_ret1 S rfl rfl ⟨by rw [hV, hbad], H.below⟩
   have c110 := of_decide_eq_false bc110
   revert a;refine qW 4 rfl (p_move rfl) bc110 rfl (qW 5 rfl (p_indexAddr rfl rfl (fun w => ia_slice Tryz.underlying30 sz5 (by omega) (by omega))) bc110 rfl (qV 6 H rfl (r_byte (l := ((ints s).drop i)) (i := 1) (v := HHW.bt s ((i + 1 : Nat) : Int)) rfl (by omega) ag5 hRo4 rfl (int_at s rfl (by omega))) bc110 rfl (qX 7 fa85_0 rfl rfl rfl bc110 rfl (qF 8 H rfl rfl rfl m0 rfl ag5 bc110 rfl (qW 9 rfl (p_lss rfl rfl) bc110 rfl (qP 10 rfl (p_pick_f rfl bc110 rfl) rfl (qM [11] rfl ?_)))))));intro a S
   refine d_split (S.of 154 rfl) (fun bc120 => ?_) (fun bc120 => ?_)
   ·
    have c120 := of_decide_eq_true bc120
    revert a;refine qO 12 rfl bc120 rfl (qO 13 rfl bc120 rfl (qO 14 rfl bc120 rfl (qO 15 rfl bc120 rfl (qO 16 rfl bc120 rfl (qO 17 rfl bc120 rfl (qP 18 rfl (p_pick_t rfl bc120 rfl) rfl (qM [19] rfl (qO 20 rfl rfl rfl (qO 21 rfl rfl rfl (qO 22 rfl rfl rfl (qO 23 rfl rfl rfl (qP 24 rfl (p_pick_t rfl rfl rfl) rfl (qM [25] rfl (qO 26 rfl rfl rfl (qO 27 rfl rfl rfl (qO 28 rfl rfl rfl (qO 29 rfl rfl rfl (qP 30 rfl (p_pick_t rfl rfl rfl) rfl (qM [31] rfl (qO 32 rfl rfl rfl (qO 33 rfl rfl rfl (qO 34 rfl rfl rfl (qO 35 rfl rfl rfl (qP 36 rfl (p_pick_t rfl rfl rfl) rfl (qM [37] rfl (qO 38 rfl rfl rfl (qO 39 rfl rfl rfl (qO 40 rfl rfl rfl (qO 41 rfl rfl rfl (qP 42 rfl (p_pick_t rfl rfl rfl) rfl (qD (pT (zt (pS (pG (pM 1 rfl (pL (pT (pZ (pU (pJ (pJ (pU (pJ (pU ?_)))))))))))))))))))))))))))))))))))))))))))));intro a S
    have hbad : up.V s i = false := by
     have e1 : Lib.checkN (s.size - i) (HHW.bt s ((i + 1 : Nat) : Int)).toNat (HHW.bt s ((i + 2 : Nat) : Int)).toNat (HHW.bt s ((i + 3 : Nat) : Int)).toNat (f % 8) (Lib.accLo (f / 16)) (Lib.accHi (f / 16)) = none := by
      unfold Lib.checkN; repeat' split
      all_goals first | rfl | (exfalso; omega)
     rw [hlead, e1]
    exact r_ret1 S rfl rfl ⟨by rw [hV, hbad], H.below⟩
   have c120 := of_decide_eq_false bc120
   revert a;refine qX 12 fa85_1 rfl rfl rfl bc120 rfl (qF 13 H rfl rfl rfl m0 rfl ag5 bc120 rfl (qW 14 rfl (p_move rfl) bc120 rfl (qW 15 rfl (p_indexAddr rfl rfl (fun w => ia_slice Tryz.underlying30 sz5 (by omega) (by omega))) bc120 rfl (qV 16 H rfl (r_byte (l := ((ints s).drop i)) (i := 1) (v := HHW.bt s ((i + 1 : Nat) : Int)) rfl (by omega) ag5 hRo4 rfl (int_at s rfl (by omega))) bc120 rfl (qW 17 rfl (p_lss rfl rfl) bc120 rfl (qP 18 rfl (p_pick_f rfl bc120 rfl) rfl (qM [19] rfl ?_)))))));intro a S
   refine d_split (S.of 162 rfl) (fun bc129 => ?_) (fun bc129 => ?_)
   ·
    have c129 := of_decide_eq_true bc129
    revert a;refine qO 20 rfl bc129 rfl (qO 21 rfl bc129 rfl (qO 22 rfl bc129 rfl (qO 23 rfl bc129 rfl (qP 24 rfl (p_pick_t rfl bc129 rfl) rfl (qM [25] rfl (qO 26 rfl rfl rfl (qO 27 rfl rfl rfl (qO 28 rfl rfl rfl (qO 29 rfl rfl rfl (qP 30 rfl (p_pick_t rfl rfl rfl) rfl (qM [31] rfl (qO 32 rfl rfl rfl (qO 33 rfl rfl rfl (qO 34 rfl rfl rfl (qO 35 rfl rfl rfl (qP 36 rfl (p_pick_t rfl rfl rfl) rfl (qM [37] rfl (qO 38 rfl rfl rfl (qO 39 rfl rfl rfl (qO 40 rfl rfl rfl (qO 41 rfl rfl rfl (qP 42 rfl (p_pick_t rfl rfl rfl) rfl (qD (pT (zt (pS (pG (pM 1 rfl (pL (pT (pZ (pU (pJ (pJ (pU (pJ (pU ?_)))))))))))))))))))))))))))))))))))));intro a S
    have hbad : up.V s i = false := by
     have e1 : Lib.checkN (s.size - i) (HHW.bt s ((i + 1 : Nat) : Int)).toNat (HHW.bt s ((i + 2 : Nat) : Int)).toNat (HHW.bt s ((i + 3 : Nat) : Int)).toNat (f % 8) (Lib.accLo (f / 16)) (Lib.accHi (f / 16)) = none := by
      unfold Lib.checkN; repeat' split
      all_goals first | rfl | (exfalso; omega)
     rw [hlead, e1]
    exact r_ret1 S rfl rfl ⟨by rw [hV, hbad], H.below⟩
   have c129 := of_decide_eq_false bc129
   revert a;refine qW 20 rfl (p_move rfl) bc129 rfl (qW 21 rfl (p_indexAddr rfl rfl (fun w => ia_slice Tryz.underlying30 sz5 (by omega) (by omega))) bc129 rfl (qV 22 H rfl (r_byte (l := ((ints s).drop i)) (i := 2) (v := HHW.bt s ((i + 2 : Nat) : Int)) rfl (by omega) ag5 hRo4 rfl (int_at s rfl (by omega))) bc129 rfl (qW 23 rfl (p_lss rfl rfl) bc129 rfl (qP 24 rfl (p_pick_f rfl bc129 rfl) rfl (qM [25] rfl ?_)))));intro a S
   refine d_split (S.of 168 rfl) (fun bc137 => ?_) (fun bc137 => ?_)
   ·
    have c137 := of_decide_eq_true bc137
    revert a;refine qO 26 rfl bc137 rfl (qO 27 rfl bc137 rfl (qO 28 rfl bc137 rfl (qO 29 rfl bc137 rfl (qP 30 rfl (p_pick_t rfl bc137 rfl) rfl (qM [31] rfl (qO 32 rfl rfl rfl (qO 33 rfl rfl rfl (qO 34 rfl rfl rfl (qO 35 rfl rfl rfl (qP 36 rfl (p_pick_t rfl rfl rfl) rfl (qM [37] rfl (qO 38 rfl rfl rfl (qO 39 rfl rfl rfl (qO 40 rfl rfl rfl (qO 41 rfl rfl rfl (qP 42 rfl (p_pick_t rfl rfl rfl) rfl (qD (pT (zt (pS (pG (pM 1 rfl (pL (pT (pZ (pU (pJ (pJ (pU (pJ (pU ?_)))))))))))))))))))))))))))))));intro a S
    have hbad : up.V s i = false := by
     have e1 : Lib.checkN (s.size - i) (HHW.bt s ((i + 1 : Nat) : Int)).toNat (HHW.bt s ((i + 2 : Nat) : Int)).toNat (HHW.bt s ((i + 3 : Nat) : Int)).toNat (f % 8) (Lib.accLo (f / 16)) (Lib.accHi (f / 16)) = none := by
      unfold Lib.checkN; repeat' split
      all_goals first | rfl | (exfalso; omega)
     rw [hlead, e1]
    exact r_ret1 S rfl rfl ⟨by rw [hV, hbad], H.below⟩
   have c137 := of_decide_eq_false bc137
   revert a;refine qW 26 rfl (p_move rfl) bc137 rfl (qW 27 rfl (p_indexAddr rfl rfl (fun w => ia_slice Tryz.underlying30 sz5 (by omega) (by omega))) bc137 rfl (qV 28 H rfl (r_byte (l := ((ints s).drop i)) (i := 2) (v := HHW.bt s ((i + 2 : Nat) : Int)) rfl (by omega) ag5 hRo4 rfl (int_at s rfl (by omega))) bc137 rfl (qW 29 rfl (p_lss rfl rfl) bc137 rfl (qP 30 rfl (p_pick_f rfl bc137 rfl) rfl (qM [31] rfl ?_)))));intro a S
   refine d_split (S.of 174 rfl) (fun bc144 => ?_) (fun bc144 => ?_)
   ·
    have c144 := of_decide_eq_true bc144
    revert a;refine qO 32 rfl bc144 rfl (qO 33 rfl bc144 rfl (qO 34 rfl bc144 rfl (qO 35 rfl bc144 rfl (qP 36 rfl (p_pick_t rfl bc144 rfl) rfl (qM [37] rfl (qO 38 rfl rfl rfl (qO 39 rfl rfl rfl (qO 40 rfl rfl rfl (qO 41 rfl rfl rfl (qP 42 rfl (p_pick_t rfl rfl rfl) rfl (qD (pT (zt (pS (pG (pM 1 rfl (pL (pT (pZ (pU (pJ (pJ (pU (pJ (pU ?_)))))))))))))))))))))))));intro a S
    have hbad : up.V s i = false := by
     have e1 : Lib.checkN (s.size - i) (HHW.bt s ((i + 1 : Nat) : Int)).toNat (HHW.bt s ((i + 2 : Nat) : Int)).toNat (HHW.bt s ((i + 3 : Nat) : Int)).toNat (f % 8) (Lib.accLo (f / 16)) (Lib.accHi (f / 16)) = none := by
      unfold Lib.checkN; repeat' split
      all_goals first | rfl | (exfalso; omega)
     rw [hlead, e1]
    exact r_ret1 S rfl rfl ⟨by rw [hV, hbad], H.below⟩
   have c144 := of_decide_eq_false bc144
   revert a;refine qW 32 rfl (p_move rfl) bc144 rfl (qW 33 rfl (p_indexAddr rfl rfl (fun w => ia_slice Tryz.underlying30 sz5 (by omega) (by omega))) bc144 rfl (qV 34 H rfl (r_byte (l := ((ints s).drop i)) (i := 3) (v := HHW.bt s ((i + 3 : Nat) : Int)) rfl (by omega) ag5 hRo4 rfl (int_at s rfl (by omega))) bc144 rfl (qW 35 rfl (p_lss rfl rfl) bc144 rfl (qP 36 rfl (p_pick_f rfl bc144 rfl) rfl (qM [37] rfl ?_)))));intro a S
   refine d_split (S.of 180 rfl) (fun bc150 => ?_) (fun bc150 => ?_)
   ·
    have c150 := of_decide_eq_true bc150
    revert a;refine qO 38 rfl bc150 rfl (qO 39 rfl bc150 rfl (qO 40 rfl bc150 rfl (qO 41 rfl bc150 rfl (qP 42 rfl (p_pick_t rfl bc150 rfl) rfl (qD (pT (zt (pS (pG (pM 1 rfl (pL (pT (pZ (pU (pJ (pJ (pU (pJ (pU ?_)))))))))))))))))));intro a S
    have hbad : up.V s i = false := by
     have e1 : Lib.checkN (s.size - i) (HHW.bt s ((i + 1 : Nat) : Int)).toNat (HHW.bt s ((i + 2 : Nat) : Int)).toNat (HHW.bt s ((i + 3 : Nat) : Int)).toNat (f % 8) (Lib.accLo (f / 16)) (Lib.accHi (f / 16)) = none := by
      unfold Lib.checkN; repeat' split
      all_goals first | rfl | (exfalso; omega)
     rw [hlead, e1]
    exact r_ret1 S rfl rfl ⟨by rw [hV, hbad], H.below⟩
   have c150 := of_decide_eq_false bc150
   revert a;refine qW 38 rfl (p_move rfl) bc150 rfl (qW 39 rfl (p_indexAddr rfl rfl (fun w => ia_slice Tryz.underlying30 sz5 (by omega) (by omega))) bc150 rfl (qV 40 H rfl (r_byte (l := ((ints s).drop i)) (i := 3) (v := HHW.bt s ((i + 3 : Nat) : Int)) rfl (by omega) ag5 hRo4 rfl (int_at s rfl (by omega))) bc150 rfl (qW 41 rfl (p_lss rfl rfl) bc150 rfl (qP 42 rfl (p_pick_f rfl bc150 rfl) rfl (qD (pT (zc rfl (fun bc155 => ?_) (fun bc155 => ?_))))))))
   ·
    intro a S
    have c155 := of_decide_eq_true bc155
    revert a;refine pS (pG (pM 1 rfl (pL (pT (pZ (pU (pJ (pJ (pU (pJ (pU ?_)))))))))));intro a S
    have hbad : up.V s i = false := by
     have e1 : Lib.checkN (s.size - i) (HHW.bt s ((i + 1 : Nat) : Int)).toNat (HHW.bt s ((i + 2 : Nat) : Int)).toNat (HHW.bt s ((i + 3 : Nat) : Int)).toNat (f % 8) (Lib.accLo (f / 16)) (Lib.accHi (f / 16)) = none := by
      unfold Lib.checkN; repeat' split
      all_goals first | rfl | (exfalso; omega)
     rw [hlead, e1]
    exact r_ret1 S rfl rfl ⟨by rw [hV, hbad], H.below⟩
   intro a S
   have c155 := of_decide_eq_false bc155
   revert a;refine pK (pT (pG (pM 1 rfl ?_)));intro a S
   have hVk : up.V s 0 = up.V s (i + 4) := hV.trans (hlead.trans (by unfold Lib.checkN; simp only [show f % 8 = 4 by omega, if_true, if_false, Nat.reduceEqDiff]; rw [if_neg (by omega)]))
   have hsb157 := hq.drop (m := 4) (by omega)
   revert a;refine pP (p_slice rfl (o_some rfl) (fun _ _ => o_none) (fun _ _ => o_none) (fun w => sl_sb_lo (m := 4) Tryz.underlying30 sz5 rfl (by omega))) rfl ?_;intro a S
   rw [List.drop_drop] at S hsb157
   revert S; revert hsb157
   generalize cutAt _ _ 4 1 = Ab157
   generalize _ - 4 = cb157
   intro hsb157 S
   have hln158 : ((ints s).drop (i + 4)).length = s.size - (i + 4) := by rw [List.length_drop, ints_len]
   revert a;refine pM 1 rfl (pL (pI 4 (pI 1 (pT ?_))));intro a S
   exact ⟨⟨(i + 4), _, _⟩, ⟨S.only ⟨rfl, trivial⟩, H.tail, ⟨by omega, hVk, hsb157⟩⟩, (show s.size - (i + 4) < s.size - i from by omega)⟩
  intro a S
  have c108 := ne_of_beq_false bc108
  revert a;refine pS (pG (pM 1 rfl (pL (pT (pZ (pJ (pJ (pU (pJ (pU ?_))))))))));intro a S
  have hbad : up.V s i = false := by
   have e1 : Lib.checkN (s.size - i) (HHW.bt s ((i + 1 : Nat) : Int)).toNat (HHW.bt s ((i + 2 : Nat) : Int)).toNat (HHW.bt s ((i + 3 : Nat) : Int)).toNat (f % 8) (Lib.accLo (f / 16)) (Lib.accHi (f / 16)) = none := by
    unfold Lib.checkN; repeat' split
    all_goals first | rfl | (exfalso; omega)
   rw [hlead, e1]
  exact r_ret1 S rfl rfl ⟨by rw [hV, hbad], H.below⟩
 intro a S
 have c3 := of_decide_eq_false bc3
 revert a;refine pX (pV (pV (pW (pT (pS (pG (pM 1 rfl (pL (pT (pZ ?_))))))))));intro a S
 exact r_ret1 S rfl rfl ⟨by rw [hV, up.V_end s i (by omega)], H.below⟩
end gv
end Go.Proofs.YtneoieigaakoaaaGreatDoor.dec
end
section
namespace Go.Proofs.YtneoieigaakoaaaGreatDoor.pf
open Go.Proofs.YtneoieigaakoaaaGreatDoor.fx
open Go.RowKit Go.Proofs.HHW Go.Proofs.YtneoieigaakoaaaGreatDoorW.PrintWords
namespace vk
theorem bld33_  : Tryz.prog.built 33 [] = some #[.int .u64 0, .slice none 0 0, .int .u8 0] := by kernel_rfl
theorem bld33_0_2 (x0_0 : Int) (x1_0 : Int) : Tryz.prog.built 33 [(0, (.int .u64 x0_0)), (2, (.int .u8 x1_0))] = some #[.int .u64 x0_0, .slice none 0 0, .int .u8 x1_0] := by kernel_rfl
theorem bld33_1 (x0_0A : Option Addr) (x0_0n x0_0c : Nat) : Tryz.prog.built 33 [(1, (.slice x0_0A x0_0n x0_0c))] = some #[.int .u64 0, .slice x0_0A x0_0n x0_0c, .int .u8 0] := by kernel_rfl
def ZL : Value := .agg #[.int .u64 0, .slice none 0 0, .int .u8 0]
def NvP (B : Nat) (wb : World) (L0 : List (Nat × Obj)) (ao : Addr) (ok far : Bool) (val : Value) (e : Ending) (w' : World) : Prop :=
 (ok = true ∧ far = false ∧ e = .returned (.tuple #[val, .nilIface]) ∧ HH B wb w' L0) ∨ (ok = false ∧ ∃ err L', e = .returned (.tuple #[ZL, err]) ∧ vr.ErrR ao far err L' ∧ HH B wb w' (L' ++ L0))
theorem fin_t {f : Nat} (h1 : decide (fl.rung f = 9218868437227405312) = false) (h2 : (!fl.eq f f) = false) : fl.fin f = true := by
 have hs := fl.self f
 have h3 : fl.eq f f = true := by simpa using h2
 rw [h3] at hs
 have h4 := of_decide_eq_true hs.symm
 have h5 := of_decide_eq_false h1
 rw [fl.fin_iff, decide_eq_true (by omega)]
theorem fin_f1 {f : Nat} (h1 : decide (fl.rung f = 9218868437227405312) = true) : fl.fin f = false := by
 have h5 := of_decide_eq_true h1
 rw [fl.fin_iff, decide_eq_false (by omega)]
theorem fin_f2 {f : Nat} (h2 : (!fl.eq f f) = true) : fl.fin f = false := by
 have hs := fl.self f
 have h3 : fl.eq f f = false := by simpa using h2
 rw [h3] at hs
 have h4 := of_decide_eq_false hs.symm
 rw [fl.fin_iff, decide_eq_false (by omega)]
theorem b01w (b : Bool) : IntKind.u64.wrap (bif b then 1 else 0) = bif b then 1 else 0 := by cases b <;> rfl
theorem nv1_ (wb w0 : World) (B : Nat) (L0 : List (Nat × Obj))  (hU : ∀ w (L : List (Nat × Obj)), HH B wb w L → Lib.Utf8Tabs 4 5 w) (as_ ar ao ai : Addr) (hE : vr.EW B wb as_ ar ao ai) (A : Option Addr) (c : Nat) (s : ByteArray) (hs : s.size ≤ 1000000) (hsb : ∀ w, HH B wb w L0 → SB w A c (ints s)) (H : HH B wb w0 L0) : Calls Tryz.prog 15 #[.int .u8 1, .slice A (ints s).length c, .bool true] w0 (NvP B wb L0 ao (up.V s 0) false (.agg #[.int .u64 0, .slice A (ints s).length c, .int .u8 0])) := by
 refine c_enter (args := [.int .u8 1, .slice A (ints s).length c, .bool true]) (k := 98) Tryz.func15 rfl rfl rfl (fun a S => ?_)
 refine wp_seq ?_
 refine c_region ?_
 refine l_alloc (cs := #[.int .u64 0, .slice none 0 0, .int .u8 0]) S H rfl (fun w => al zv33) rfl rfl rfl ?_; clear S a H; intro g1 w a H S
 refine l_mv 1 S rfl ?_; clear S a; intro a S
 refine l_nil ?_
 refine e_then ?_
 refine wp_seq ?_
 refine c_region ?_
 refine l_mv 1 S rfl ?_; clear S a; intro a S
 refine l_nil ?_
 refine e_then ?_
 refine wp_block ?_
 refine wp_seq ?_
 refine c_region ?_
 refine l_pure S (p_eql rfl rfl) rfl rfl rfl ?_; clear S a; intro a S
 refine l_mv 1 S rfl ?_; clear S a; intro a S
 refine l_nil ?_
 refine e_then ?_
 refine c_cond (b := false) S rfl (fun h => by cases h) (fun _ => ?_)
 refine wp_seq ?_
 refine c_region ?_
 refine l_pure S (p_eql rfl rfl) rfl rfl rfl ?_; clear S a; intro a S
 refine l_mv 1 S rfl ?_; clear S a; intro a S
 refine l_nil ?_
 refine e_then ?_
 refine c_cond (b := false) S rfl (fun h => by cases h) (fun _ => ?_)
 refine wp_seq ?_
 refine c_region ?_
 refine l_pure S (p_eql rfl rfl) rfl rfl rfl ?_; clear S a; intro a S
 refine l_mv 1 S rfl ?_; clear S a; intro a S
 refine l_nil ?_
 refine e_then ?_
 refine c_cond (b := false) S rfl (fun h => by cases h) (fun _ => ?_)
 refine wp_seq ?_
 refine c_region ?_
 refine l_pure S (p_eql rfl rfl) rfl rfl rfl ?_; clear S a; intro a S
 refine l_mv 1 S rfl ?_; clear S a; intro a S
 refine l_nil ?_
 refine e_then ?_
 refine c_cond (b := false) S rfl (fun h => by cases h) (fun _ => ?_)
 refine wp_seq ?_
 refine c_region ?_
 refine l_pure S (p_eql rfl rfl) rfl rfl rfl ?_; clear S a; intro a S
 refine l_mv 1 S rfl ?_; clear S a; intro a S
 refine l_nil ?_
 refine e_then ?_
 refine c_cond (b := true) S rfl (fun _ => ?_) (fun h => by cases h)
 refine wp_seq ?_
 refine wp_seq ?_
 refine c_region ?_
 refine l_mv 2 S rfl ?_; clear S a; intro a S
 refine l_on S rfl rfl rfl rfl rfl ?_
 refine l_pure S (p_move rfl) rfl rfl rfl ?_; clear S a; intro a S
 refine l_on S rfl rfl rfl rfl rfl ?_
 refine l_call S rfl rfl Tryz.func29 rfl rfl (dec.gv.valid_ _ A c s (hsb _ H.tail) (by omega) (hU _ _ H)) rfl rfl rfl ?_
 rintro e w ⟨rfl, hb⟩
 refine ⟨_, rfl, ?_⟩; clear S a; intro a S
 replace H := H.later hb; clear hb
 refine l_on S rfl rfl rfl rfl rfl ?_
 refine l_pure S (p_not rfl) rfl rfl rfl ?_; clear S a; intro a S
 refine l_pure S (p_pick_t rfl rfl rfl) rfl rfl rfl ?_; clear S a; intro a S
 refine l_nil ?_
 refine e_then ?_
 refine c_cond S rfl (fun bc15 => ?_) (fun bc15 => ?_)
 ·
  have c15 := bc15
  replace c15 := not_eq_true_ c15
  refine wp_seq ?_
  refine c_region ?_
  refine l_pure S (p_bld (ps := []) rfl (bld33_)) rfl rfl rfl ?_; clear S a; intro a S
  refine l_call S rfl rfl Tryz.func26 rfl rfl (vr.errNew_ wb _ B _ ⟨#[105, 110, 118, 97, 108, 105, 100, 32, 117, 116, 102, 45, 56, 32, 102, 111, 117, 110, 100, 32, 105, 110, 32, 118, 97, 108, 117, 101, 32, 46, 46]⟩ H) rfl rfl rfl ?_
  rintro e w ⟨g9, rfl, hH⟩
  refine ⟨_, rfl, ?_⟩; clear S a; intro a S
  clear H; have H := hH; clear hH
  refine l_storeAll (vs := [.int .u64 0, .slice none 0 0, .int .u8 0]) S H rfl rfl rfl sz33 (.there .here) rfl (fun v hv => by simp only [List.mem_cons, List.not_mem_nil, or_false] at hv; rcases hv with rfl | rfl | rfl <;> rfl) rfl rfl ?_; clear S a H; intro w a H S
  refine l_mv 1 S rfl ?_; clear S a; intro a S
  refine l_nil ?_
  refine e_then ?_
  refine wp_ret ?_
  refine e_then_ret ?_
  refine e_in_ret ?_
  exact r_retct S rfl rfl rfl (lva (cs := [.int .u64 0, .slice none 0 0, .int .u8 0]) ag33 sz33 rfl H (List.mem_cons_of_mem _ List.mem_cons_self)) (.inr ⟨by simpa using bc15, _, [_], rfl, .inr ⟨rfl, _, _, rfl, rfl⟩, H.sub (.cons_cons _ (.cons _ (.refl _)))⟩)
 ·
  have c15 := bc15
  replace c15 := not_eq_false_ c15
  refine wp_skip ?_
  refine e_then ?_
  refine wp_seq ?_
  refine c_region ?_
  refine l_mv 1 S rfl ?_; clear S a; intro a S
  refine l_pure S (p_bld (ps := [(1, .tmp 95)]) rfl (bld33_1 _ _ _)) rfl rfl rfl ?_; clear S a; intro a S
  refine l_storeAll (vs := [.int .u64 0, .slice A (ints s).length c, .int .u8 0]) S H rfl rfl rfl sz33 .here rfl (fun v hv => by simp only [List.mem_cons, List.not_mem_nil, or_false] at hv; rcases hv with rfl | rfl | rfl <;> rfl) rfl rfl ?_; clear S a H; intro w a H S
  refine l_mv 1 S rfl ?_; clear S a; intro a S
  refine l_nil ?_
  refine e_then ?_
  refine wp_ret ?_
  refine e_in_ret ?_
  exact r_retct S rfl rfl rfl (lva (cs := [.int .u64 0, .slice A (ints s).length c, .int .u8 0]) ag33 sz33 rfl H List.mem_cons_self) (.inl ⟨by simpa using bc15, rfl, rfl, H.tail⟩)
theorem nv2_ (wb w0 : World) (B : Nat) (L0 : List (Nat × Obj))   (as_ ar ao ai : Addr) (hE : vr.EW B wb as_ ar ao ai) (A : Option Addr) (c : Nat) (s : ByteArray) (hs : s.size ≤ 1000000) (hsb : ∀ w, HH B wb w L0 → SB w A c (ints s)) (H : HH B wb w0 L0) : Calls Tryz.prog 15 #[.int .u8 2, .slice A (ints s).length c, .bool true] w0 (NvP B wb L0 ao (okE (wn.pi64 s).2) (farE (wn.pi64 s).2) (.agg #[.int .u64 (IntKind.u64.wrap (wn.pi64 s).1), .slice none 0 0, .int .u8 2])) := by
 refine c_enter (args := [.int .u8 2, .slice A (ints s).length c, .bool true]) (k := 98) Tryz.func15 rfl rfl rfl (fun a S => ?_)
 refine wp_seq ?_
 refine c_region ?_
 refine l_alloc (cs := #[.int .u64 0, .slice none 0 0, .int .u8 0]) S H rfl (fun w => al zv33) rfl rfl rfl ?_; clear S a H; intro g1 w a H S
 refine l_mv 1 S rfl ?_; clear S a; intro a S
 refine l_nil ?_
 refine e_then ?_
 refine wp_seq ?_
 refine c_region ?_
 refine l_mv 1 S rfl ?_; clear S a; intro a S
 refine l_nil ?_
 refine e_then ?_
 refine wp_block ?_
 refine wp_seq ?_
 refine c_region ?_
 refine l_pure S (p_eql rfl rfl) rfl rfl rfl ?_; clear S a; intro a S
 refine l_mv 1 S rfl ?_; clear S a; intro a S
 refine l_nil ?_
 refine e_then ?_
 refine c_cond (b := true) S rfl (fun _ => ?_) (fun h => by cases h)
 refine wp_seq ?_
 refine c_region ?_
 refine l_mv 1 S rfl ?_; clear S a; intro a S
 refine l_call S rfl rfl Tryz.func20 rfl rfl (vn.pInt_ wb _ B _ as_ ar ao ai hE A c s hs (fun w H => hsb w H.tail) H) rfl rfl rfl ?_
 rintro e w ⟨v1, L1, rfl, hH, hne⟩
 refine ⟨_, rfl, ?_⟩; clear S a; intro a S
 clear H; have H := hH; clear hH
 rcases vn.pi_c s with he | he | he
 ·
  rw [he] at hne
  obtain ⟨rfl, rfl⟩ := hne
  rw [List.nil_append] at H
  refine l_mv 5 S rfl ?_; clear S a; intro a S
  refine l_nil ?_
  refine e_then ?_
  refine wp_seq ?_
  refine wp_seq ?_
  refine c_region ?_
  refine l_mv 1 S rfl ?_; clear S a; intro a S
  refine l_pure S (p_nilnilN mi35 rfl) rfl rfl rfl ?_; clear S a; intro a S
  refine l_nil ?_
  refine e_then ?_
  refine c_cond (b := false) S rfl (fun h => by cases h) (fun _ => ?_)
  refine wp_skip ?_
  refine e_then ?_
  refine wp_seq ?_
  refine c_region ?_
  refine l_mv 1 S rfl ?_; clear S a; intro a S
  refine l_pure S (p_conv rfl (fun w => cv_int (Tryz.underlying2) (Tryz.underlying22) (r := IntKind.u64.wrap (wn.pi64 s).1) rfl)) rfl rfl rfl ?_; clear S a; intro a S
  refine l_pure S (p_bld (ps := [(0, .tmp 32), (2, .const (.int .u8 2))]) rfl (bld33_0_2 _ _)) rfl rfl rfl ?_; clear S a; intro a S
  refine l_storeAll (vs := [.int .u64 (IntKind.u64.wrap (wn.pi64 s).1), .slice none 0 0, .int .u8 2]) S H rfl rfl rfl sz33 .here rfl (fun v hv => by simp only [List.mem_cons, List.not_mem_nil, or_false] at hv; rcases hv with rfl | rfl | rfl <;> rfl) rfl rfl ?_; clear S a H; intro w a H S
  refine l_mv 1 S rfl ?_; clear S a; intro a S
  refine l_nil ?_
  refine e_then ?_
  refine wp_ret ?_
  refine e_in_ret ?_
  exact r_retct S rfl rfl rfl (lva (cs := [.int .u64 (IntKind.u64.wrap (wn.pi64 s).1), .slice none 0 0, .int .u8 2]) ag33 sz33 rfl H List.mem_cons_self) (.inl ⟨by rw [he]; rfl, by rw [he]; rfl, rfl, H.tail⟩)
 ·
  rw [he] at hne
  obtain ⟨n1, rfl, rfl⟩ := hne
  refine l_mv 5 S rfl ?_; clear S a; intro a S
  refine l_nil ?_
  refine e_then ?_
  refine wp_seq ?_
  refine wp_seq ?_
  refine c_region ?_
  refine l_mv 1 S rfl ?_; clear S a; intro a S
  refine l_pure S (p_ifnilN mi35 rfl rfl) rfl rfl rfl ?_; clear S a; intro a S
  refine l_nil ?_
  refine e_then ?_
  refine c_cond (b := true) S rfl (fun _ => ?_) (fun h => by cases h)
  refine wp_seq ?_
  refine c_region ?_
  refine l_pure S (p_bld (ps := []) rfl (bld33_)) rfl rfl rfl ?_; clear S a; intro a S
  refine l_mv 1 S rfl ?_; clear S a; intro a S
  have hcon := vr.maybe_ wb _ B _ as_ ar ao ai hE (⟨#[80, 97, 114, 115, 101, 73, 110, 116]⟩ : ByteArray) s ⟨#[105, 110, 118, 97, 108, 105, 100, 32, 105, 110, 116, 101, 103, 101, 114, 32, 118, 97, 108, 117, 101, 32, 115, 121, 110, 116, 97, 120]⟩ (some 1) (by simp) _ [_] ⟨n1, rfl, rfl⟩ H
  refine l_call S rfl rfl Tryz.func21 rfl rfl (hcon) rfl rfl rfl ?_
  rintro e w ⟨e1, L2, rfl, hr, hH⟩
  refine ⟨_, rfl, ?_⟩; clear S a; intro a S
  clear H hcon; have H := hH; clear hH
  refine l_storeAll (vs := [.int .u64 0, .slice none 0 0, .int .u8 0]) S H rfl rfl rfl sz33 (Rep.skip L2 .here) rfl (fun v hv => by simp only [List.mem_cons, List.not_mem_nil, or_false] at hv; rcases hv with rfl | rfl | rfl <;> rfl) rfl rfl ?_; clear S a H; intro w a H S
  refine l_mv 1 S rfl ?_; clear S a; intro a S
  refine l_nil ?_
  refine e_then ?_
  refine wp_ret ?_
  refine e_then_ret ?_
  refine e_in_ret ?_
  exact r_retct S rfl rfl rfl (lva (cs := [.int .u64 0, .slice none 0 0, .int .u8 0]) ag33 sz33 rfl H (List.mem_append_right _ List.mem_cons_self)) (.inr ⟨by rw [he]; rfl, e1, L2, rfl, by rw [he]; exact hr, H.sub ((List.sublist_cons_self _ _).append_left _)⟩)
 ·
  rw [he] at hne
  obtain ⟨n1, rfl, rfl⟩ := hne
  refine l_mv 5 S rfl ?_; clear S a; intro a S
  refine l_nil ?_
  refine e_then ?_
  refine wp_seq ?_
  refine wp_seq ?_
  refine c_region ?_
  refine l_mv 1 S rfl ?_; clear S a; intro a S
  refine l_pure S (p_ifnilN mi35 rfl rfl) rfl rfl rfl ?_; clear S a; intro a S
  refine l_nil ?_
  refine e_then ?_
  refine c_cond (b := true) S rfl (fun _ => ?_) (fun h => by cases h)
  refine wp_seq ?_
  refine c_region ?_
  refine l_pure S (p_bld (ps := []) rfl (bld33_)) rfl rfl rfl ?_; clear S a; intro a S
  refine l_mv 1 S rfl ?_; clear S a; intro a S
  have hcon := vr.maybe_ wb _ B _ as_ ar ao ai hE (⟨#[80, 97, 114, 115, 101, 73, 110, 116]⟩ : ByteArray) s ⟨#[105, 110, 118, 97, 108, 105, 100, 32, 105, 110, 116, 101, 103, 101, 114, 32, 118, 97, 108, 117, 101, 32, 115, 121, 110, 116, 97, 120]⟩ (some 2) (by simp) _ [_] ⟨n1, rfl, rfl⟩ H
  refine l_call S rfl rfl Tryz.func21 rfl rfl (hcon) rfl rfl rfl ?_
  rintro e w ⟨e1, L2, rfl, hr, hH⟩
  refine ⟨_, rfl, ?_⟩; clear S a; intro a S
  clear H hcon; have H := hH; clear hH
  refine l_storeAll (vs := [.int .u64 0, .slice none 0 0, .int .u8 0]) S H rfl rfl rfl sz33 (Rep.skip L2 .here) rfl (fun v hv => by simp only [List.mem_cons, List.not_mem_nil, or_false] at hv; rcases hv with rfl | rfl | rfl <;> rfl) rfl rfl ?_; clear S a H; intro w a H S
  refine l_mv 1 S rfl ?_; clear S a; intro a S
  refine l_nil ?_
  refine e_then ?_
  refine wp_ret ?_
  refine e_then_ret ?_
  refine e_in_ret ?_
  exact r_retct S rfl rfl rfl (lva (cs := [.int .u64 0, .slice none 0 0, .int .u8 0]) ag33 sz33 rfl H (List.mem_append_right _ List.mem_cons_self)) (.inr ⟨by rw [he]; rfl, e1, L2, rfl, by rw [he]; exact hr, H.sub ((List.sublist_cons_self _ _).append_left _)⟩)
theorem nv3_ (wb w0 : World) (B : Nat) (L0 : List (Nat × Obj))   (as_ ar ao ai : Addr) (hE : vr.EW B wb as_ ar ao ai) (A : Option Addr) (c : Nat) (s : ByteArray) (hs : s.size ≤ 1000000) (hsb : ∀ w, HH B wb w L0 → SB w A c (ints s)) (H : HH B wb w0 L0) : Calls Tryz.prog 15 #[.int .u8 3, .slice A (ints s).length c, .bool true] w0 (NvP B wb L0 ao (okE (wn.pu64 s).2) (farE (wn.pu64 s).2) (.agg #[.int .u64 (wn.pu64 s).1, .slice none 0 0, .int .u8 3])) := by
 refine c_enter (args := [.int .u8 3, .slice A (ints s).length c, .bool true]) (k := 98) Tryz.func15 rfl rfl rfl (fun a S => ?_)
 refine wp_seq ?_
 refine c_region ?_
 refine l_alloc (cs := #[.int .u64 0, .slice none 0 0, .int .u8 0]) S H rfl (fun w => al zv33) rfl rfl rfl ?_; clear S a H; intro g1 w a H S
 refine l_mv 1 S rfl ?_; clear S a; intro a S
 refine l_nil ?_
 refine e_then ?_
 refine wp_seq ?_
 refine c_region ?_
 refine l_mv 1 S rfl ?_; clear S a; intro a S
 refine l_nil ?_
 refine e_then ?_
 refine wp_block ?_
 refine wp_seq ?_
 refine c_region ?_
 refine l_pure S (p_eql rfl rfl) rfl rfl rfl ?_; clear S a; intro a S
 refine l_mv 1 S rfl ?_; clear S a; intro a S
 refine l_nil ?_
 refine e_then ?_
 refine c_cond (b := false) S rfl (fun h => by cases h) (fun _ => ?_)
 refine wp_seq ?_
 refine c_region ?_
 refine l_pure S (p_eql rfl rfl) rfl rfl rfl ?_; clear S a; intro a S
 refine l_mv 1 S rfl ?_; clear S a; intro a S
 refine l_nil ?_
 refine e_then ?_
 refine c_cond (b := true) S rfl (fun _ => ?_) (fun h => by cases h)
 refine wp_seq ?_
 refine c_region ?_
 refine l_mv 1 S rfl ?_; clear S a; intro a S
 refine l_call S rfl rfl Tryz.func22 rfl rfl (vn.pUint_ wb _ B _ as_ ar ao ai hE A c s hs (fun w H => hsb w H.tail) H) rfl rfl rfl ?_
 rintro e w ⟨v1, L1, rfl, hH, hne⟩
 refine ⟨_, rfl, ?_⟩; clear S a; intro a S
 clear H; have H := hH; clear hH
 rcases vn.pu_c s with he | he | he
 ·
  rw [he] at hne
  obtain ⟨rfl, rfl⟩ := hne
  rw [List.nil_append] at H
  refine l_mv 5 S rfl ?_; clear S a; intro a S
  refine l_nil ?_
  refine e_then ?_
  refine wp_seq ?_
  refine wp_seq ?_
  refine c_region ?_
  refine l_mv 1 S rfl ?_; clear S a; intro a S
  refine l_pure S (p_nilnilN mi35 rfl) rfl rfl rfl ?_; clear S a; intro a S
  refine l_nil ?_
  refine e_then ?_
  refine c_cond (b := false) S rfl (fun h => by cases h) (fun _ => ?_)
  refine wp_skip ?_
  refine e_then ?_
  refine wp_seq ?_
  refine c_region ?_
  refine l_mv 1 S rfl ?_; clear S a; intro a S
  refine l_pure S (p_bld (ps := [(0, .tmp 46), (2, .const (.int .u8 3))]) rfl (bld33_0_2 _ _)) rfl rfl rfl ?_; clear S a; intro a S
  refine l_storeAll (vs := [.int .u64 (wn.pu64 s).1, .slice none 0 0, .int .u8 3]) S H rfl rfl rfl sz33 .here rfl (fun v hv => by simp only [List.mem_cons, List.not_mem_nil, or_false] at hv; rcases hv with rfl | rfl | rfl <;> rfl) rfl rfl ?_; clear S a H; intro w a H S
  refine l_mv 1 S rfl ?_; clear S a; intro a S
  refine l_nil ?_
  refine e_then ?_
  refine wp_ret ?_
  refine e_in_ret ?_
  exact r_retct S rfl rfl rfl (lva (cs := [.int .u64 (wn.pu64 s).1, .slice none 0 0, .int .u8 3]) ag33 sz33 rfl H List.mem_cons_self) (.inl ⟨by rw [he]; rfl, by rw [he]; rfl, rfl, H.tail⟩)
 ·
  rw [he] at hne
  obtain ⟨n1, rfl, rfl⟩ := hne
  refine l_mv 5 S rfl ?_; clear S a; intro a S
  refine l_nil ?_
  refine e_then ?_
  refine wp_seq ?_
  refine wp_seq ?_
  refine c_region ?_
  refine l_mv 1 S rfl ?_; clear S a; intro a S
  refine l_pure S (p_ifnilN mi35 rfl rfl) rfl rfl rfl ?_; clear S a; intro a S
  refine l_nil ?_
  refine e_then ?_
  refine c_cond (b := true) S rfl (fun _ => ?_) (fun h => by cases h)
  refine wp_seq ?_
  refine c_region ?_
  refine l_pure S (p_bld (ps := []) rfl (bld33_)) rfl rfl rfl ?_; clear S a; intro a S
  refine l_mv 1 S rfl ?_; clear S a; intro a S
  have hcon := vr.maybe_ wb _ B _ as_ ar ao ai hE (⟨#[80, 97, 114, 115, 101, 85, 105, 110, 116]⟩ : ByteArray) s ⟨#[105, 110, 118, 97, 108, 105, 100, 32, 117, 110, 115, 105, 103, 110, 101, 100, 32, 105, 110, 116, 101, 103, 101, 114, 32, 118, 97, 108, 117, 101, 32, 115, 121, 110, 116, 97, 120]⟩ (some 1) (by simp) _ [_] ⟨n1, rfl, rfl⟩ H
  refine l_call S rfl rfl Tryz.func21 rfl rfl (hcon) rfl rfl rfl ?_
  rintro e w ⟨e1, L2, rfl, hr, hH⟩
  refine ⟨_, rfl, ?_⟩; clear S a; intro a S
  clear H hcon; have H := hH; clear hH
  refine l_storeAll (vs := [.int .u64 0, .slice none 0 0, .int .u8 0]) S H rfl rfl rfl sz33 (Rep.skip L2 .here) rfl (fun v hv => by simp only [List.mem_cons, List.not_mem_nil, or_false] at hv; rcases hv with rfl | rfl | rfl <;> rfl) rfl rfl ?_; clear S a H; intro w a H S
  refine l_mv 1 S rfl ?_; clear S a; intro a S
  refine l_nil ?_
  refine e_then ?_
  refine wp_ret ?_
  refine e_then_ret ?_
  refine e_in_ret ?_
  exact r_retct S rfl rfl rfl (lva (cs := [.int .u64 0, .slice none 0 0, .int .u8 0]) ag33 sz33 rfl H (List.mem_append_right _ List.mem_cons_self)) (.inr ⟨by rw [he]; rfl, e1, L2, rfl, by rw [he]; exact hr, H.sub ((List.sublist_cons_self _ _).append_left _)⟩)
 ·
  rw [he] at hne
  obtain ⟨n1, rfl, rfl⟩ := hne
  refine l_mv 5 S rfl ?_; clear S a; intro a S
  refine l_nil ?_
  refine e_then ?_
  refine wp_seq ?_
  refine wp_seq ?_
  refine c_region ?_
  refine l_mv 1 S rfl ?_; clear S a; intro a S
  refine l_pure S (p_ifnilN mi35 rfl rfl) rfl rfl rfl ?_; clear S a; intro a S
  refine l_nil ?_
  refine e_then ?_
  refine c_cond (b := true) S rfl (fun _ => ?_) (fun h => by cases h)
  refine wp_seq ?_
  refine c_region ?_
  refine l_pure S (p_bld (ps := []) rfl (bld33_)) rfl rfl rfl ?_; clear S a; intro a S
  refine l_mv 1 S rfl ?_; clear S a; intro a S
  have hcon := vr.maybe_ wb _ B _ as_ ar ao ai hE (⟨#[80, 97, 114, 115, 101, 85, 105, 110, 116]⟩ : ByteArray) s ⟨#[105, 110, 118, 97, 108, 105, 100, 32, 117, 110, 115, 105, 103, 110, 101, 100, 32, 105, 110, 116, 101, 103, 101, 114, 32, 118, 97, 108, 117, 101, 32, 115, 121, 110, 116, 97, 120]⟩ (some 2) (by simp) _ [_] ⟨n1, rfl, rfl⟩ H
  refine l_call S rfl rfl Tryz.func21 rfl rfl (hcon) rfl rfl rfl ?_
  rintro e w ⟨e1, L2, rfl, hr, hH⟩
  refine ⟨_, rfl, ?_⟩; clear S a; intro a S
  clear H hcon; have H := hH; clear hH
  refine l_storeAll (vs := [.int .u64 0, .slice none 0 0, .int .u8 0]) S H rfl rfl rfl sz33 (Rep.skip L2 .here) rfl (fun v hv => by simp only [List.mem_cons, List.not_mem_nil, or_false] at hv; rcases hv with rfl | rfl | rfl <;> rfl) rfl rfl ?_; clear S a H; intro w a H S
  refine l_mv 1 S rfl ?_; clear S a; intro a S
  refine l_nil ?_
  refine e_then ?_
  refine wp_ret ?_
  refine e_then_ret ?_
  refine e_in_ret ?_
  exact r_retct S rfl rfl rfl (lva (cs := [.int .u64 0, .slice none 0 0, .int .u8 0]) ag33 sz33 rfl H (List.mem_append_right _ List.mem_cons_self)) (.inr ⟨by rw [he]; rfl, e1, L2, rfl, by rw [he]; exact hr, H.sub ((List.sublist_cons_self _ _).append_left _)⟩)
theorem nv4_ (wb w0 : World) (B : Nat) (L0 : List (Nat × Obj))  (hT : fz.PTab 13 B wb) (hW : PW 8 9 7 12 11 14 B wb) (hL : PL 14 B wb) (as_ ar ao ai : Addr) (hE : vr.EW B wb as_ ar ao ai) (A : Option Addr) (c : Nat) (s : ByteArray) (hs : s.size ≤ 1000000) (hsb : ∀ w, HH B wb w L0 → SB w A c (ints s)) (H : HH B wb w0 L0) : Calls Tryz.prog 15 #[.int .u8 4, .slice A (ints s).length c, .bool true] w0 (NvP B wb L0 ao (okE (pr.pff s).2 && fl.fin (pr.pff s).1) (farE (pr.pff s).2) (.agg #[.int .u64 ((pr.pff s).1 : Int), .slice none 0 0, .int .u8 4])) := by
 refine c_enter (args := [.int .u8 4, .slice A (ints s).length c, .bool true]) (k := 98) Tryz.func15 rfl rfl rfl (fun a S => ?_)
 refine wp_seq ?_
 refine c_region ?_
 refine l_alloc (cs := #[.int .u64 0, .slice none 0 0, .int .u8 0]) S H rfl (fun w => al zv33) rfl rfl rfl ?_; clear S a H; intro g1 w a H S
 refine l_mv 1 S rfl ?_; clear S a; intro a S
 refine l_nil ?_
 refine e_then ?_
 refine wp_seq ?_
 refine c_region ?_
 refine l_mv 1 S rfl ?_; clear S a; intro a S
 refine l_nil ?_
 refine e_then ?_
 refine wp_block ?_
 refine wp_seq ?_
 refine c_region ?_
 refine l_pure S (p_eql rfl rfl) rfl rfl rfl ?_; clear S a; intro a S
 refine l_mv 1 S rfl ?_; clear S a; intro a S
 refine l_nil ?_
 refine e_then ?_
 refine c_cond (b := false) S rfl (fun h => by cases h) (fun _ => ?_)
 refine wp_seq ?_
 refine c_region ?_
 refine l_pure S (p_eql rfl rfl) rfl rfl rfl ?_; clear S a; intro a S
 refine l_mv 1 S rfl ?_; clear S a; intro a S
 refine l_nil ?_
 refine e_then ?_
 refine c_cond (b := false) S rfl (fun h => by cases h) (fun _ => ?_)
 refine wp_seq ?_
 refine c_region ?_
 refine l_pure S (p_eql rfl rfl) rfl rfl rfl ?_; clear S a; intro a S
 refine l_mv 1 S rfl ?_; clear S a; intro a S
 refine l_nil ?_
 refine e_then ?_
 refine c_cond (b := true) S rfl (fun _ => ?_) (fun h => by cases h)
 refine wp_seq ?_
 refine c_region ?_
 refine l_mv 1 S rfl ?_; clear S a; intro a S
 refine l_call S rfl rfl Tryz.func23 rfl rfl (vn.pFloat_ wb _ B _ hT hW hL as_ ar ao ai hE A c s hs (fun w H => hsb w H.tail) H) rfl rfl rfl ?_
 rintro e w ⟨v1, L1, rfl, hH, hne, hpe⟩
 refine ⟨_, rfl, ?_⟩; clear S a; intro a S
 clear H; have H := hH; clear hH
 rcases hpe with he | he | he
 ·
  rw [he] at hne
  obtain ⟨rfl, rfl⟩ := hne
  rw [List.nil_append] at H
  refine l_mv 5 S rfl ?_; clear S a; intro a S
  refine l_nil ?_
  refine e_then ?_
  refine wp_seq ?_
  refine wp_seq ?_
  refine c_region ?_
  refine l_mv 1 S rfl ?_; clear S a; intro a S
  refine l_pure S (p_nilnilN mi35 rfl) rfl rfl rfl ?_; clear S a; intro a S
  refine l_nil ?_
  refine e_then ?_
  refine c_cond (b := false) S rfl (fun h => by cases h) (fun _ => ?_)
  refine wp_skip ?_
  refine e_then ?_
  refine wp_seq ?_
  refine wp_seq ?_
  refine c_region ?_
  refine l_mv 1 S rfl ?_; clear S a; intro a S
  have hcon := vn.inf_ wb _ B _ (pr.pff s).1 H
  refine l_call S rfl rfl Tryz.func24 rfl rfl (hcon) rfl rfl rfl ?_
  rintro e w ⟨rfl, hH⟩
  refine ⟨_, rfl, ?_⟩; clear S a; intro a S
  clear H hcon; have H := hH; clear hH
  refine l_mv 1 S rfl ?_; clear S a; intro a S
  refine l_split (S.of 62 rfl) (fun bc11 => ?_) (fun bc11 => ?_)
  ·
   refine l_off S rfl rfl rfl rfl bc11 rfl rfl ?_; clear S a; intro a S
   refine l_off S rfl rfl rfl rfl bc11 rfl rfl ?_; clear S a; intro a S
   refine l_pure S (p_pick_t rfl bc11 rfl) rfl rfl rfl ?_; clear S a; intro a S
   refine l_nil ?_
   refine e_then ?_
   refine c_cond (b := true) S rfl (fun _ => ?_) (fun h => by cases h)
   refine wp_seq ?_
   refine c_region ?_
   refine l_pure S (p_bld (ps := []) rfl (bld33_)) rfl rfl rfl ?_; clear S a; intro a S
   refine l_call S rfl rfl Tryz.func26 rfl rfl (vr.errNew_ wb _ B _ ⟨#[110, 111, 110, 45, 110, 117, 109, 98, 101, 114, 32, 46, 46, 32, 99, 97, 110, 110, 111, 116, 32, 98, 101, 32, 114, 101, 112, 114, 101, 115, 101, 110, 116, 101, 100, 32, 97, 115, 32, 97, 32, 108, 105, 110, 101, 45, 112, 114, 111, 116, 111, 99, 111, 108, 32, 102, 105, 101, 108, 100, 32, 118, 97, 108, 117, 101]⟩ H) rfl rfl rfl ?_
   rintro e w ⟨g9, rfl, hH⟩
   refine ⟨_, rfl, ?_⟩; clear S a; intro a S
   clear H; have H := hH; clear hH
   refine l_storeAll (vs := [.int .u64 0, .slice none 0 0, .int .u8 0]) S H rfl rfl rfl sz33 (.there .here) rfl (fun v hv => by simp only [List.mem_cons, List.not_mem_nil, or_false] at hv; rcases hv with rfl | rfl | rfl <;> rfl) rfl rfl ?_; clear S a H; intro w a H S
   refine l_mv 1 S rfl ?_; clear S a; intro a S
   refine l_nil ?_
   refine e_then ?_
   refine wp_ret ?_
   refine e_then_ret ?_
   refine e_in_ret ?_
   have hfin := fin_f1 bc11
   exact r_retct S rfl rfl rfl (lva (cs := [.int .u64 0, .slice none 0 0, .int .u8 0]) ag33 sz33 rfl H (List.mem_cons_of_mem _ List.mem_cons_self)) (.inr ⟨by rw [he, hfin]; rfl, _, [_], rfl, .inr ⟨by rw [he]; rfl, _, _, rfl, rfl⟩, H.sub (.cons_cons _ (.cons _ (.refl _)))⟩)
  ·
   refine l_on S rfl rfl rfl rfl bc11 ?_
   refine l_pure S (p_move rfl) rfl rfl rfl ?_; clear S a; intro a S
   refine l_on S rfl rfl rfl rfl bc11 ?_
   have hcon := vn.nan_ wb _ B _ (pr.pff s).1 H
   refine l_call S rfl rfl Tryz.func25 rfl rfl (hcon) rfl rfl rfl ?_
   rintro e w ⟨rfl, hH⟩
   refine ⟨_, rfl, ?_⟩; clear S a; intro a S
   clear H hcon; have H := hH; clear hH
   refine l_pure S (p_pick_f rfl bc11 rfl) rfl rfl rfl ?_; clear S a; intro a S
   refine l_nil ?_
   refine e_then ?_
   refine c_cond S rfl (fun bc15 => ?_) (fun bc15 => ?_)
   ·
    have c15 := bc15
    refine wp_seq ?_
    refine c_region ?_
    refine l_pure S (p_bld (ps := []) rfl (bld33_)) rfl rfl rfl ?_; clear S a; intro a S
    refine l_call S rfl rfl Tryz.func26 rfl rfl (vr.errNew_ wb _ B _ ⟨#[110, 111, 110, 45, 110, 117, 109, 98, 101, 114, 32, 46, 46, 32, 99, 97, 110, 110, 111, 116, 32, 98, 101, 32, 114, 101, 112, 114, 101, 115, 101, 110, 116, 101, 100, 32, 97, 115, 32, 97, 32, 108, 105, 110, 101, 45, 112, 114, 111, 116, 111, 99, 111, 108, 32, 102, 105, 101, 108, 100, 32, 118, 97, 108, 117, 101]⟩ H) rfl rfl rfl ?_
    rintro e w ⟨g9, rfl, hH⟩
    refine ⟨_, rfl, ?_⟩; clear S a; intro a S
    clear H; have H := hH; clear hH
    refine l_storeAll (vs := [.int .u64 0, .slice none 0 0, .int .u8 0]) S H rfl rfl rfl sz33 (.there .here) rfl (fun v hv => by simp only [List.mem_cons, List.not_mem_nil, or_false] at hv; rcases hv with rfl | rfl | rfl <;> rfl) rfl rfl ?_; clear S a H; intro w a H S
    refine l_mv 1 S rfl ?_; clear S a; intro a S
    refine l_nil ?_
    refine e_then ?_
    refine wp_ret ?_
    refine e_then_ret ?_
    refine e_in_ret ?_
    have hfin := fin_f2 bc15
    exact r_retct S rfl rfl rfl (lva (cs := [.int .u64 0, .slice none 0 0, .int .u8 0]) ag33 sz33 rfl H (List.mem_cons_of_mem _ List.mem_cons_self)) (.inr ⟨by rw [he, hfin]; rfl, _, [_], rfl, .inr ⟨by rw [he]; rfl, _, _, rfl, rfl⟩, H.sub (.cons_cons _ (.cons _ (.refl _)))⟩)
   ·
    have c15 := bc15
    refine wp_skip ?_
    refine e_then ?_
    refine wp_seq ?_
    refine c_region ?_
    refine l_mv 1 S rfl ?_; clear S a; intro a S
    refine l_pure S (p_ext rfl (fun w => vn.bits_run _ w)) rfl rfl rfl ?_; clear S a; intro a S
    refine l_pure S (p_bld (ps := [(0, .tmp 69), (2, .const (.int .u8 4))]) rfl (bld33_0_2 _ _)) rfl rfl rfl ?_; clear S a; intro a S
    refine l_storeAll (vs := [.int .u64 ((pr.pff s).1 : Int), .slice none 0 0, .int .u8 4]) S H rfl rfl rfl sz33 .here rfl (fun v hv => by simp only [List.mem_cons, List.not_mem_nil, or_false] at hv; rcases hv with rfl | rfl | rfl <;> rfl) rfl rfl ?_; clear S a H; intro w a H S
    refine l_mv 1 S rfl ?_; clear S a; intro a S
    refine l_nil ?_
    refine e_then ?_
    refine wp_ret ?_
    refine e_in_ret ?_
    have hfin := fin_t bc11 bc15
    exact r_retct S rfl rfl rfl (lva (cs := [.int .u64 ((pr.pff s).1 : Int), .slice none 0 0, .int .u8 4]) ag33 sz33 rfl H List.mem_cons_self) (.inl ⟨by rw [he, hfin]; rfl, by rw [he]; rfl, rfl, H.tail⟩)
 ·
  rw [he] at hne
  obtain ⟨n1, rfl, rfl⟩ := hne
  refine l_mv 5 S rfl ?_; clear S a; intro a S
  refine l_nil ?_
  refine e_then ?_
  refine wp_seq ?_
  refine wp_seq ?_
  refine c_region ?_
  refine l_mv 1 S rfl ?_; clear S a; intro a S
  refine l_pure S (p_ifnilN mi35 rfl rfl) rfl rfl rfl ?_; clear S a; intro a S
  refine l_nil ?_
  refine e_then ?_
  refine c_cond (b := true) S rfl (fun _ => ?_) (fun h => by cases h)
  refine wp_seq ?_
  refine c_region ?_
  refine l_pure S (p_bld (ps := []) rfl (bld33_)) rfl rfl rfl ?_; clear S a; intro a S
  refine l_mv 1 S rfl ?_; clear S a; intro a S
  have hcon := vr.maybe_ wb _ B _ as_ ar ao ai hE (⟨#[80, 97, 114, 115, 101, 70, 108, 111, 97, 116]⟩ : ByteArray) s ⟨#[105, 110, 118, 97, 108, 105, 100, 32, 102, 108, 111, 97, 116, 32, 118, 97, 108, 117, 101, 32, 115, 121, 110, 116, 97, 120]⟩ (some 1) (by simp) _ [_] ⟨n1, rfl, rfl⟩ H
  refine l_call S rfl rfl Tryz.func21 rfl rfl (hcon) rfl rfl rfl ?_
  rintro e w ⟨e1, L2, rfl, hr, hH⟩
  refine ⟨_, rfl, ?_⟩; clear S a; intro a S
  clear H hcon; have H := hH; clear hH
  refine l_storeAll (vs := [.int .u64 0, .slice none 0 0, .int .u8 0]) S H rfl rfl rfl sz33 (Rep.skip L2 .here) rfl (fun v hv => by simp only [List.mem_cons, List.not_mem_nil, or_false] at hv; rcases hv with rfl | rfl | rfl <;> rfl) rfl rfl ?_; clear S a H; intro w a H S
  refine l_mv 1 S rfl ?_; clear S a; intro a S
  refine l_nil ?_
  refine e_then ?_
  refine wp_ret ?_
  refine e_then_ret ?_
  refine e_in_ret ?_
  exact r_retct S rfl rfl rfl (lva (cs := [.int .u64 0, .slice none 0 0, .int .u8 0]) ag33 sz33 rfl H (List.mem_append_right _ List.mem_cons_self)) (.inr ⟨by rw [he]; rfl, e1, L2, rfl, by rw [he]; exact hr, H.sub ((List.sublist_cons_self _ _).append_left _)⟩)
 ·
  rw [he] at hne
  obtain ⟨n1, rfl, rfl⟩ := hne
  refine l_mv 5 S rfl ?_; clear S a; intro a S
  refine l_nil ?_
  refine e_then ?_
  refine wp_seq ?_
  refine wp_seq ?_
  refine c_region ?_
  refine l_mv 1 S rfl ?_; clear S a; intro a S
  refine l_pure S (p_ifnilN mi35 rfl rfl) rfl rfl rfl ?_; clear S a; intro a S
  refine l_nil ?_
  refine e_then ?_
  refine c_cond (b := true) S rfl (fun _ => ?_) (fun h => by cases h)
  refine wp_seq ?_
  refine c_region ?_
  refine l_pure S (p_bld (ps := []) rfl (bld33_)) rfl rfl rfl ?_; clear S a; intro a S
  refine l_mv 1 S rfl ?_; clear S a; intro a S
  have hcon := vr.maybe_ wb _ B _ as_ ar ao ai hE (⟨#[80, 97, 114, 115, 101, 70, 108, 111, 97, 116]⟩ : ByteArray) s ⟨#[105, 110, 118, 97, 108, 105, 100, 32, 102, 108, 111, 97, 116, 32, 118, 97, 108, 117, 101, 32, 115, 121, 110, 116, 97, 120]⟩ (some 2) (by simp) _ [_] ⟨n1, rfl, rfl⟩ H
  refine l_call S rfl rfl Tryz.func21 rfl rfl (hcon) rfl rfl rfl ?_
  rintro e w ⟨e1, L2, rfl, hr, hH⟩
  refine ⟨_, rfl, ?_⟩; clear S a; intro a S
  clear H hcon; have H := hH; clear hH
  refine l_storeAll (vs := [.int .u64 0, .slice none 0 0, .int .u8 0]) S H rfl rfl rfl sz33 (Rep.skip L2 .here) rfl (fun v hv => by simp only [List.mem_cons, List.not_mem_nil, or_false] at hv; rcases hv with rfl | rfl | rfl <;> rfl) rfl rfl ?_; clear S a H; intro w a H S
  refine l_mv 1 S rfl ?_; clear S a; intro a S
  refine l_nil ?_
  refine e_then ?_
  refine wp_ret ?_
  refine e_then_ret ?_
  refine e_in_ret ?_
  exact r_retct S rfl rfl rfl (lva (cs := [.int .u64 0, .slice none 0 0, .int .u8 0]) ag33 sz33 rfl H (List.mem_append_right _ List.mem_cons_self)) (.inr ⟨by rw [he]; rfl, e1, L2, rfl, by rw [he]; exact hr, H.sub ((List.sublist_cons_self _ _).append_left _)⟩)
theorem nv5_ (wb w0 : World) (B : Nat) (L0 : List (Nat × Obj))   (as_ ar ao ai : Addr) (hE : vr.EW B wb as_ ar ao ai) (A : Option Addr) (c : Nat) (s : ByteArray) (hs : s.size ≤ 1000000) (hsb : ∀ w, HH B wb w L0 → SB w A c (ints s)) (H : HH B wb w0 L0) : Calls Tryz.prog 15 #[.int .u8 5, .slice A (ints s).length c, .bool true] w0 (NvP B wb L0 ao (inW s tTrue || inW s tFalse) false (.agg #[.int .u64 (bif inW s tTrue then 1 else 0), .slice none 0 0, .int .u8 5])) := by
 refine c_enter (args := [.int .u8 5, .slice A (ints s).length c, .bool true]) (k := 98) Tryz.func15 rfl rfl rfl (fun a S => ?_)
 refine wp_seq ?_
 refine c_region ?_
 refine l_alloc (cs := #[.int .u64 0, .slice none 0 0, .int .u8 0]) S H rfl (fun w => al zv33) rfl rfl rfl ?_; clear S a H; intro g1 w a H S
 refine l_mv 1 S rfl ?_; clear S a; intro a S
 refine l_nil ?_
 refine e_then ?_
 refine wp_seq ?_
 refine c_region ?_
 refine l_mv 1 S rfl ?_; clear S a; intro a S
 refine l_nil ?_
 refine e_then ?_
 refine wp_block ?_
 refine wp_seq ?_
 refine c_region ?_
 refine l_pure S (p_eql rfl rfl) rfl rfl rfl ?_; clear S a; intro a S
 refine l_mv 1 S rfl ?_; clear S a; intro a S
 refine l_nil ?_
 refine e_then ?_
 refine c_cond (b := false) S rfl (fun h => by cases h) (fun _ => ?_)
 refine wp_seq ?_
 refine c_region ?_
 refine l_pure S (p_eql rfl rfl) rfl rfl rfl ?_; clear S a; intro a S
 refine l_mv 1 S rfl ?_; clear S a; intro a S
 refine l_nil ?_
 refine e_then ?_
 refine c_cond (b := false) S rfl (fun h => by cases h) (fun _ => ?_)
 refine wp_seq ?_
 refine c_region ?_
 refine l_pure S (p_eql rfl rfl) rfl rfl rfl ?_; clear S a; intro a S
 refine l_mv 1 S rfl ?_; clear S a; intro a S
 refine l_nil ?_
 refine e_then ?_
 refine c_cond (b := false) S rfl (fun h => by cases h) (fun _ => ?_)
 refine wp_seq ?_
 refine c_region ?_
 refine l_pure S (p_eql rfl rfl) rfl rfl rfl ?_; clear S a; intro a S
 refine l_mv 1 S rfl ?_; clear S a; intro a S
 refine l_nil ?_
 refine e_then ?_
 refine c_cond (b := true) S rfl (fun _ => ?_) (fun h => by cases h)
 refine wp_seq ?_
 refine c_region ?_
 refine l_mv 1 S rfl ?_; clear S a; intro a S
 have hcon := vn.pBool_ wb _ B _ as_ ar ao ai hE A c s hs (fun w H => hsb w H.tail) H
 refine l_call S rfl rfl Tryz.func28 rfl rfl (hcon) rfl rfl rfl ?_
 rintro e w ⟨rfl, hH⟩
 refine ⟨_, rfl, ?_⟩; clear S a; intro a S
 clear H hcon; have H := hH; clear hH
 cases hq : (inW s tTrue || inW s tFalse)
 ·
  rw [hq, cond_false] at S
  refine l_mv 5 S rfl ?_; clear S a; intro a S
  refine l_nil ?_
  refine e_then ?_
  refine wp_seq ?_
  refine wp_seq ?_
  refine c_region ?_
  refine l_mv 1 S rfl ?_; clear S a; intro a S
  refine l_pure S (p_ifnilN mi35 rfl rfl) rfl rfl rfl ?_; clear S a; intro a S
  refine l_nil ?_
  refine e_then ?_
  refine c_cond (b := true) S rfl (fun _ => ?_) (fun h => by cases h)
  refine wp_seq ?_
  refine c_region ?_
  refine l_pure S (p_bld (ps := []) rfl (bld33_)) rfl rfl rfl ?_; clear S a; intro a S
  refine l_call S rfl rfl Tryz.func26 rfl rfl (vr.errNew_ wb _ B _ ⟨#[105, 110, 118, 97, 108, 105, 100, 32, 98, 111, 111, 108, 32, 118, 97, 108, 117, 101, 32, 46, 46]⟩ H) rfl rfl rfl ?_
  rintro e w ⟨g9, rfl, hH⟩
  refine ⟨_, rfl, ?_⟩; clear S a; intro a S
  clear H; have H := hH; clear hH
  refine l_storeAll (vs := [.int .u64 0, .slice none 0 0, .int .u8 0]) S H rfl rfl rfl sz33 (.there .here) rfl (fun v hv => by simp only [List.mem_cons, List.not_mem_nil, or_false] at hv; rcases hv with rfl | rfl | rfl <;> rfl) rfl rfl ?_; clear S a H; intro w a H S
  refine l_mv 1 S rfl ?_; clear S a; intro a S
  refine l_nil ?_
  refine e_then ?_
  refine wp_ret ?_
  refine e_then_ret ?_
  refine e_in_ret ?_
  exact r_retct S rfl rfl rfl (lva (cs := [.int .u64 0, .slice none 0 0, .int .u8 0]) ag33 sz33 rfl H (List.mem_cons_of_mem _ List.mem_cons_self)) (.inr ⟨rfl, _, [_], rfl, .inr ⟨rfl, _, _, rfl, rfl⟩, H.sub (.cons_cons _ (.cons _ (.refl _)))⟩)
 ·
  rw [hq, cond_true] at S
  refine l_mv 5 S rfl ?_; clear S a; intro a S
  refine l_nil ?_
  refine e_then ?_
  refine wp_seq ?_
  refine wp_seq ?_
  refine c_region ?_
  refine l_mv 1 S rfl ?_; clear S a; intro a S
  refine l_pure S (p_nilnilN mi35 rfl) rfl rfl rfl ?_; clear S a; intro a S
  refine l_nil ?_
  refine e_then ?_
  refine c_cond (b := false) S rfl (fun h => by cases h) (fun _ => ?_)
  refine wp_skip ?_
  refine e_then ?_
  refine wp_seq ?_
  refine c_region ?_
  refine l_mv 1 S rfl ?_; clear S a; intro a S
  refine l_pure S (p_conv rfl (fun w => cv_int (Tryz.underlying5) (Tryz.underlying22) (r := (bif inW s tTrue then 1 else 0)) (b01w _))) rfl rfl rfl ?_; clear S a; intro a S
  refine l_pure S (p_bld (ps := [(0, .tmp 83), (2, .const (.int .u8 5))]) rfl (bld33_0_2 _ _)) rfl rfl rfl ?_; clear S a; intro a S
  refine l_storeAll (vs := [.int .u64 (bif inW s tTrue then 1 else 0), .slice none 0 0, .int .u8 5]) S H rfl rfl rfl sz33 .here rfl (fun v hv => by simp only [List.mem_cons, List.not_mem_nil, or_false] at hv; rcases hv with rfl | rfl | rfl <;> rfl) rfl rfl ?_; clear S a H; intro w a H S
  refine l_mv 1 S rfl ?_; clear S a; intro a S
  refine l_nil ?_
  refine e_then ?_
  refine wp_ret ?_
  refine e_in_ret ?_
  exact r_retct S rfl rfl rfl (lva (cs := [.int .u64 (bif inW s tTrue then 1 else 0), .slice none 0 0, .int .u8 5]) ag33 sz33 rfl H List.mem_cons_self) (.inl ⟨rfl, rfl, rfl, H.tail⟩)
theorem nv0_ (wb w0 : World) (B : Nat) (L0 : List (Nat × Obj))   (as_ ar ao ai : Addr) (hE : vr.EW B wb as_ ar ao ai) (A : Option Addr) (c : Nat) (s : ByteArray) (hs : s.size ≤ 1000000) (hsb : ∀ w, HH B wb w L0 → SB w A c (ints s)) (H : HH B wb w0 L0) : Calls Tryz.prog 15 #[.int .u8 0, .slice A (ints s).length c, .bool true] w0 (NvP B wb L0 ao false false ZL) := by
 refine c_enter (args := [.int .u8 0, .slice A (ints s).length c, .bool true]) (k := 98) Tryz.func15 rfl rfl rfl (fun a S => ?_)
 refine wp_seq ?_
 refine c_region ?_
 refine l_alloc (cs := #[.int .u64 0, .slice none 0 0, .int .u8 0]) S H rfl (fun w => al zv33) rfl rfl rfl ?_; clear S a H; intro g1 w a H S
 refine l_mv 1 S rfl ?_; clear S a; intro a S
 refine l_nil ?_
 refine e_then ?_
 refine wp_seq ?_
 refine c_region ?_
 refine l_mv 1 S rfl ?_; clear S a; intro a S
 refine l_nil ?_
 refine e_then ?_
 refine wp_block ?_
 refine wp_seq ?_
 refine c_region ?_
 refine l_pure S (p_eql rfl rfl) rfl rfl rfl ?_; clear S a; intro a S
 refine l_mv 1 S rfl ?_; clear S a; intro a S
 refine l_nil ?_
 refine e_then ?_
 refine c_cond (b := false) S rfl (fun h => by cases h) (fun _ => ?_)
 refine wp_seq ?_
 refine c_region ?_
 refine l_pure S (p_eql rfl rfl) rfl rfl rfl ?_; clear S a; intro a S
 refine l_mv 1 S rfl ?_; clear S a; intro a S
 refine l_nil ?_
 refine e_then ?_
 refine c_cond (b := false) S rfl (fun h => by cases h) (fun _ => ?_)
 refine wp_seq ?_
 refine c_region ?_
 refine l_pure S (p_eql rfl rfl) rfl rfl rfl ?_; clear S a; intro a S
 refine l_mv 1 S rfl ?_; clear S a; intro a S
 refine l_nil ?_
 refine e_then ?_
 refine c_cond (b := false) S rfl (fun h => by cases h) (fun _ => ?_)
 refine wp_seq ?_
 refine c_region ?_
 refine l_pure S (p_eql rfl rfl) rfl rfl rfl ?_; clear S a; intro a S
 refine l_mv 1 S rfl ?_; clear S a; intro a S
 refine l_nil ?_
 refine e_then ?_
 refine c_cond (b := false) S rfl (fun h => by cases h) (fun _ => ?_)
 refine wp_seq ?_
 refine c_region ?_
 refine l_pure S (p_eql rfl rfl) rfl rfl rfl ?_; clear S a; intro a S
 refine l_mv 1 S rfl ?_; clear S a; intro a S
 refine l_nil ?_
 refine e_then ?_
 refine c_cond (b := false) S rfl (fun h => by cases h) (fun _ => ?_)
 refine wp_seq ?_
 refine c_region ?_
 refine l_pure S (p_eql rfl rfl) rfl rfl rfl ?_; clear S a; intro a S
 refine l_mv 1 S rfl ?_; clear S a; intro a S
 refine l_nil ?_
 refine e_then ?_
 refine c_cond (b := true) S rfl (fun _ => ?_) (fun h => by cases h)
 refine wp_seq ?_
 refine c_region ?_
 refine l_pure S (p_bld (ps := []) rfl (bld33_)) rfl rfl rfl ?_; clear S a; intro a S
 refine l_call S rfl rfl Tryz.func26 rfl rfl (vr.errNew_ wb _ B _ ⟨#[99, 97, 110, 110, 111, 116, 32, 112, 97, 114, 115, 101, 32, 118, 97, 108, 117, 101, 32, 46, 46, 32, 119, 105, 116, 104, 32, 117, 110, 107, 110, 111, 119, 110, 32, 107, 105, 110, 100]⟩ H) rfl rfl rfl ?_
 rintro e w ⟨g9, rfl, hH⟩
 refine ⟨_, rfl, ?_⟩; clear S a; intro a S
 clear H; have H := hH; clear hH
 refine l_storeAll (vs := [.int .u64 0, .slice none 0 0, .int .u8 0]) S H rfl rfl rfl sz33 (.there .here) rfl (fun v hv => by simp only [List.mem_cons, List.not_mem_nil, or_false] at hv; rcases hv with rfl | rfl | rfl <;> rfl) rfl rfl ?_; clear S a H; intro w a H S
 refine l_mv 1 S rfl ?_; clear S a; intro a S
 refine l_nil ?_
 refine e_then ?_
 refine wp_ret ?_
 refine e_in_ret ?_
 exact r_retct S rfl rfl rfl (lva (cs := [.int .u64 0, .slice none 0 0, .int .u8 0]) ag33 sz33 rfl H (List.mem_cons_of_mem _ List.mem_cons_self)) (.inr ⟨rfl, _, [_], rfl, .inr ⟨rfl, _, _, rfl, rfl⟩, H.sub (.cons_cons _ (.cons _ (.refl _)))⟩)
theorem nv6_ (wb w0 : World) (B : Nat) (L0 : List (Nat × Obj)) (k : Int) (hk : 6 ≤ k ∧ k ≤ 255)  (as_ ar ao ai : Addr) (hE : vr.EW B wb as_ ar ao ai) (A : Option Addr) (c : Nat) (s : ByteArray) (hs : s.size ≤ 1000000) (hsb : ∀ w, HH B wb w L0 → SB w A c (ints s)) (H : HH B wb w0 L0) : Calls Tryz.prog 15 #[.int .u8 k, .slice A (ints s).length c, .bool true] w0 (NvP B wb L0 ao false false ZL) := by
 refine c_enter (args := [.int .u8 k, .slice A (ints s).length c, .bool true]) (k := 98) Tryz.func15 rfl rfl rfl (fun a S => ?_)
 refine wp_seq ?_
 refine c_region ?_
 refine l_alloc (cs := #[.int .u64 0, .slice none 0 0, .int .u8 0]) S H rfl (fun w => al zv33) rfl rfl rfl ?_; clear S a H; intro g1 w a H S
 refine l_mv 1 S rfl ?_; clear S a; intro a S
 refine l_nil ?_
 refine e_then ?_
 refine wp_seq ?_
 refine c_region ?_
 refine l_mv 1 S rfl ?_; clear S a; intro a S
 refine l_nil ?_
 refine e_then ?_
 refine wp_block ?_
 refine wp_seq ?_
 refine c_region ?_
 refine l_pure S (p_eql rfl rfl) rfl rfl rfl ?_; clear S a; intro a S
 refine l_mv 1 S rfl ?_; clear S a; intro a S
 refine l_nil ?_
 refine e_then ?_
 refine c_cond S rfl (fun h => by rw [(show (k == 2) = false from beq_eq_false_iff_ne.2 (by omega))] at h; cases h) (fun _ => ?_)
 refine wp_seq ?_
 refine c_region ?_
 refine l_pure S (p_eql rfl rfl) rfl rfl rfl ?_; clear S a; intro a S
 refine l_mv 1 S rfl ?_; clear S a; intro a S
 refine l_nil ?_
 refine e_then ?_
 refine c_cond S rfl (fun h => by rw [(show (k == 3) = false from beq_eq_false_iff_ne.2 (by omega))] at h; cases h) (fun _ => ?_)
 refine wp_seq ?_
 refine c_region ?_
 refine l_pure S (p_eql rfl rfl) rfl rfl rfl ?_; clear S a; intro a S
 refine l_mv 1 S rfl ?_; clear S a; intro a S
 refine l_nil ?_
 refine e_then ?_
 refine c_cond S rfl (fun h => by rw [(show (k == 4) = false from beq_eq_false_iff_ne.2 (by omega))] at h; cases h) (fun _ => ?_)
 refine wp_seq ?_
 refine c_region ?_
 refine l_pure S (p_eql rfl rfl) rfl rfl rfl ?_; clear S a; intro a S
 refine l_mv 1 S rfl ?_; clear S a; intro a S
 refine l_nil ?_
 refine e_then ?_
 refine c_cond S rfl (fun h => by rw [(show (k == 5) = false from beq_eq_false_iff_ne.2 (by omega))] at h; cases h) (fun _ => ?_)
 refine wp_seq ?_
 refine c_region ?_
 refine l_pure S (p_eql rfl rfl) rfl rfl rfl ?_; clear S a; intro a S
 refine l_mv 1 S rfl ?_; clear S a; intro a S
 refine l_nil ?_
 refine e_then ?_
 refine c_cond S rfl (fun h => by rw [(show (k == 1) = false from beq_eq_false_iff_ne.2 (by omega))] at h; cases h) (fun _ => ?_)
 refine wp_seq ?_
 refine c_region ?_
 refine l_pure S (p_eql rfl rfl) rfl rfl rfl ?_; clear S a; intro a S
 refine l_mv 1 S rfl ?_; clear S a; intro a S
 refine l_nil ?_
 refine e_then ?_
 refine c_cond S rfl (fun h => by rw [(show (k == 0) = false from beq_eq_false_iff_ne.2 (by omega))] at h; cases h) (fun _ => ?_)
 refine wp_seq ?_
 refine c_region ?_
 refine l_pure S (p_bld (ps := []) rfl (bld33_)) rfl rfl rfl ?_; clear S a; intro a S
 refine l_call S rfl rfl Tryz.func26 rfl rfl (vr.errNew_ wb _ B _ ⟨#[117, 110, 101, 120, 112, 101, 99, 116, 101, 100, 32, 118, 97, 108, 117, 101, 32, 107, 105, 110, 100, 32, 46, 46, 32, 40, 118, 97, 108, 117, 101, 32, 46, 46, 41]⟩ H) rfl rfl rfl ?_
 rintro e w ⟨g9, rfl, hH⟩
 refine ⟨_, rfl, ?_⟩; clear S a; intro a S
 clear H; have H := hH; clear hH
 refine l_storeAll (vs := [.int .u64 0, .slice none 0 0, .int .u8 0]) S H rfl rfl rfl sz33 (.there .here) rfl (fun v hv => by simp only [List.mem_cons, List.not_mem_nil, or_false] at hv; rcases hv with rfl | rfl | rfl <;> rfl) rfl rfl ?_; clear S a H; intro w a H S
 refine l_mv 1 S rfl ?_; clear S a; intro a S
 refine l_nil ?_
 refine e_then ?_
 refine wp_ret ?_
 refine e_in_ret ?_
 exact r_retct S rfl rfl rfl (lva (cs := [.int .u64 0, .slice none 0 0, .int .u8 0]) ag33 sz33 rfl H (List.mem_cons_of_mem _ List.mem_cons_self)) (.inr ⟨rfl, _, [_], rfl, .inr ⟨rfl, _, _, rfl, rfl⟩, H.sub (.cons_cons _ (.cons _ (.refl _)))⟩)
end vk
end Go.Proofs.YtneoieigaakoaaaGreatDoor.pf
end
section
namespace Go.Proofs.YtneoieigaakoaaaGreatDoor.pf
open Go.Proofs.YtneoieigaakoaaaGreatDoor.fx
open Go.RowKit Go.Proofs.HHW Go.Proofs.YtneoieigaakoaaaGreatDoorW.PrintWords
namespace vi
theorem zv4 : zvB Tryz.prog 4 = some (.bool false) := by kernel_rfl
def ansP (ok far : Bool) (x : Vl) : Value := .tuple #[(bif ok then x else {}).v, .bool ok, .bool far]
theorem back64 {n : Int} (h : -9223372036854775808 ≤ n ∧ n ≤ 9223372036854775807) : IntKind.i64.wrap (IntKind.u64.wrap n) = n := by
 rw [IntKind.wrap_u64, IntKind.wrap_i64]
 omega
theorem back64u {n : Int} (h : 0 ≤ n ∧ n ≤ 18446744073709551615) : IntKind.u64.wrap (IntKind.i64.wrap n) = n := by
 rw [IntKind.wrap_u64, IntKind.wrap_i64]
 omega
theorem pint_rng {l : List UInt8} {v : Int} (h : Lib.parseIntB 64 l = .ok v) : -9223372036854775808 ≤ v ∧ v ≤ 9223372036854775807 := by
 cases l with
 | nil => unfold Lib.parseIntB at h; cases h
 | cons c r =>
  unfold Lib.parseIntB at h
  simp only [show (2 : Nat) ^ (64 - 1) = 9223372036854775808 from rfl] at h
  rcases e : Lib.parseUintB 64 (if c.toNat = 43 ∨ c.toNat = 45 then r else c :: r) with u | _ | _
  ·
   rw [e] at h
   simp only at h
   by_cases q : c.toNat = 45
   ·
    by_cases q2 : 9223372036854775808 < u
    ·
     rw [if_neg (by omega), if_pos ⟨q, q2⟩] at h; cases h
    ·
     rw [if_neg (by omega), if_neg (by omega), if_pos q] at h
     injection h with h; omega
   ·
    by_cases q2 : 9223372036854775808 ≤ u
    ·
     rw [if_pos ⟨q, q2⟩] at h; cases h
    ·
     rw [if_neg (by omega), if_neg (by omega), if_neg q] at h
     injection h with h; omega
  ·
   rw [e] at h; cases h
  ·
   rw [e] at h; cases h
theorem puint_le {M : Nat} : ∀ {l : List UInt8} {acc v : Nat}, acc ≤ M → Lib.parseUintM M acc l = .ok v → v ≤ M
 | [], acc, v, ha, h => by unfold Lib.parseUintM at h; injection h with h; omega
 | c :: r, acc, v, ha, h => by
  unfold Lib.parseUintM at h
  split at h
  ·
   split at h
   ·
    cases h
   ·
    split at h
    ·
     cases h
    ·
     exact puint_le (by omega) h
  ·
   cases h
theorem pi_rng (s : ByteArray) : -9223372036854775808 ≤ (wn.pi64 s).1 ∧ (wn.pi64 s).1 ≤ 9223372036854775807 := by
 unfold wn.pi64
 split
 ·
  rename_i v e; exact pint_rng e
 ·
  simp only [Lib.intSat]
  split <;> decide
 ·
  exact ⟨by decide, by decide⟩
theorem pu_rng (s : ByteArray) : 0 ≤ (wn.pu64 s).1 ∧ (wn.pu64 s).1 ≤ 18446744073709551615 := by
 unfold wn.pu64
 split
 ·
  rename_i v e
  unfold Lib.parseUintB at e
  split at e
  ·
   cases e
  ·
   have := puint_le (by omega) e
   exact ⟨by simp only; omega, by simp only; omega⟩
 ·
  exact ⟨by decide, by decide⟩
 ·
  exact ⟨by decide, by decide⟩
theorem b01b (b : Bool) : ((bif b then 1 else 0 : Int) != 0) = b := by cases b <;> rfl
theorem idle7 (p0 : Addr) (p1 : Addr) (p2 : Addr) (w : World) :
  CallsD Tryz.prog 7 #[.pointer (some p0), .pointer (some p1), .pointer (some p2)] .returning w fun e u' w' => e = .returned (.tuple #[]) ∧ u' = .returning ∧ w' = w := by
 refine callsD_of_wpS Tryz.func7 rfl fun c₀ cs hu => ?_
 apply wpS_seq
 apply wpS_region
 simp [wpOpsS, go_sem, recoverD, hu, Tryz.ntmps7, Exit.thenS]
 refine wpS_cond (t := false) (by simp [Act.eval, Array.replicate]) ?_
 simp only [Bool.false_eq_true, if_false]
 refine wpS_of_wp (wp_skip ?_)
 cases c₀
 simp_all [bodyPostS, results, Tryz.results7]
theorem new1_ (wb w0 : World) (B : Nat) (L0 : List (Nat × Obj))  (hU : ∀ w (L : List (Nat × Obj)), HH B wb w L → Lib.Utf8Tabs 4 5 w) (as_ ar ao ai : Addr) (hE : vr.EW B wb as_ ar ao ai) (A : Option Addr) (c : Nat) (s : ByteArray) (hs : s.size ≤ 1000000) (hsb : ∀ w, HH B wb w L0 → SB w A c (ints s)) (H : HH B wb w0 L0) : Calls Tryz.prog 8 #[.int .u8 1, .slice A (ints s).length c] w0 (vk.NvP B wb L0 ao (up.V s 0) false (.agg #[.int .u64 0, .slice A (ints s).length c, .int .u8 0])) := by
 refine c_enter (args := [.int .u8 1, .slice A (ints s).length c]) (k := 9) Tryz.func8 rfl rfl rfl (fun a S => ?_)
 refine wp_seq ?_
 refine c_region ?_
 refine l_alloc (cs := #[.int .u64 0, .slice none 0 0, .int .u8 0]) S H rfl (fun w => al zv33) rfl rfl rfl ?_; clear S a H; intro g1 w a H S
 refine l_mv 1 S rfl ?_; clear S a; intro a S
 refine l_nil ?_
 refine e_then ?_
 refine wp_seq ?_
 refine c_region ?_
 refine l_mv 2 S rfl ?_; clear S a; intro a S
 have hcon := vk.nv1_ wb _ B _ hU as_ ar ao ai hE A c s hs (fun w H => hsb w H.tail) H
 refine l_call S rfl rfl Tryz.func15 rfl rfl hcon rfl rfl rfl ?_
 rintro e w (⟨hok, hfar, rfl, hH⟩ | ⟨hok, e1, L2, rfl, hr, hH⟩)
 ·
  refine ⟨_, rfl, ?_⟩; clear S a; intro a S; clear H hcon; have H := hH; clear hH
  refine l_mv 2 S rfl ?_; clear S a; intro a S
  refine l_storeAll (vs := [.int .u64 0, .slice A (ints s).length c, .int .u8 0]) S H rfl rfl rfl sz33 .here rfl (fun v hv => by simp only [List.mem_cons, List.not_mem_nil, or_false] at hv; rcases hv with rfl | rfl | rfl <;> rfl) rfl rfl ?_; clear S a H; intro w a H S
  refine l_mv 1 S rfl ?_; clear S a; intro a S
  refine l_nil ?_
  refine e_then ?_
  refine wp_ret ?_
  exact r_retct S rfl rfl rfl (lva (cs := [.int .u64 0, .slice A (ints s).length c, .int .u8 0]) ag33 sz33 rfl H List.mem_cons_self) (.inl ⟨hok, hfar, rfl, H.tail⟩)
 ·
  refine ⟨_, rfl, ?_⟩; clear S a; intro a S; clear H hcon; have H := hH; clear hH
  refine l_mv 2 S rfl ?_; clear S a; intro a S
  refine l_storeAll (vs := [.int .u64 0, .slice none 0 0, .int .u8 0]) S H rfl rfl rfl sz33 (Rep.skip L2 .here) rfl (fun v hv => by simp only [List.mem_cons, List.not_mem_nil, or_false] at hv; rcases hv with rfl | rfl | rfl <;> rfl) rfl rfl ?_; clear S a H; intro w a H S
  refine l_mv 1 S rfl ?_; clear S a; intro a S
  refine l_nil ?_
  refine e_then ?_
  refine wp_ret ?_
  exact r_retct S rfl rfl rfl (lva (cs := [.int .u64 0, .slice none 0 0, .int .u8 0]) ag33 sz33 rfl H (List.mem_append_right _ List.mem_cons_self)) (.inr ⟨hok, e1, L2, rfl, hr, H.sub ((List.sublist_cons_self _ _).append_left _)⟩)
theorem im1_ (wb w0 : World) (B : Nat) (L0 : List (Nat × Obj))  (hU : ∀ w (L : List (Nat × Obj)), HH B wb w L → Lib.Utf8Tabs 4 5 w) (as_ ar ao ai : Addr) (hE : vr.EW B wb as_ ar ao ai) (s : ByteArray) (hs : s.size ≤ 1000000) (H : HH B wb w0 L0) : Calls Tryz.prog 4 #[.int .i64 1, .string s] w0 fun e w' => e = .returned (ansP (up.V s 0) false { k := 1, s := s }) ∧ HH B wb w' L0 := by
 refine c_enter_d (args := [.int .i64 1, .string s]) (k := 23) Tryz.func4 rfl rfl rfl (fun a S => ?_)
 refine wp_seq ?_
 refine c_region ?_
 refine l_alloc (cs := #[.int .i64 0, .string ⟨#[]⟩, .int .i64 0, .int .u64 0, .float .f64 0, .bool false]) S H rfl (fun w => al zv25) rfl rfl rfl ?_; clear S a H; intro g1 w a H S
 refine l_alloc (cs := #[.bool false]) S H rfl (fun w => al zv4) rfl rfl rfl ?_; clear S a H; intro g2 w a H S
 refine l_alloc (cs := #[.bool false]) S H rfl (fun w => al zv4) rfl rfl rfl ?_; clear S a H; intro g3 w a H S
 refine l_nil ?_
 refine e_then ?_
 refine wp_seq ?_
 refine c_region ?_
 refine l_pure S (p_func rfl rfl) rfl rfl rfl ?_; clear S a; intro a S
 refine l_defer (xs := []) (us := []) (vs := []) S rfl rfl rfl rfl rfl ?_; clear S a; intro a S
 refine l_nil ?_
 refine e_then ?_
 refine wp_seq ?_
 refine c_region ?_
 refine l_mv 1 S rfl ?_; clear S a; intro a S
 refine l_pure S (p_conv rfl (fun w => cv_int (Tryz.underlying3) (Tryz.underlying31) (r := 1) (by decide))) rfl rfl rfl ?_; clear S a; intro a S
 refine l_mv 1 S rfl ?_; clear S a; intro a S
 refine l_bytesOwn (s := s) S H rfl rfl Tryz.underlying9 Tryz.underlying30 Tryz.underlying5 rfl rfl rfl ?_; clear S a H; intro v_ ow4 w a how4 H S
 rw [← ints_len s] at how4
 obtain ⟨Aow4, cow4, rfl, _⟩ := how4.slice
 have hcon := new1_ wb _ B _ hU as_ ar ao ai hE Aow4 cow4 s hs (fun w H => SB.own how4 H) H
 refine l_call S rfl rfl Tryz.func8 rfl rfl hcon rfl rfl rfl ?_
 rintro e w (⟨hok, hfar, rfl, hH⟩ | ⟨hok, e1, L2, rfl, hr, hH⟩)
 ·
  refine ⟨_, rfl, ?_⟩; clear S a; intro a S; clear H hcon; have H := hH; clear hH
  refine l_mv 3 S rfl ?_; clear S a; intro a S
  refine l_alloc (cs := #[.int .u64 0, .slice none 0 0, .int .u8 0]) S H rfl (fun w => al zv33) rfl rfl rfl ?_; clear S a H; intro g5 w a H S
  refine l_storeAll (vs := [.int .u64 0, .slice Aow4 (ints s).length cow4, .int .u8 0]) S H rfl rfl rfl sz33 .here rfl (fun v hv => by simp only [List.mem_cons, List.not_mem_nil, or_false] at hv; rcases hv with rfl | rfl | rfl <;> rfl) rfl rfl ?_; clear S a H; intro w a H S
  refine l_mv 1 S rfl ?_; clear S a; intro a S
  refine l_nil ?_
  refine e_then ?_
  refine wp_seq ?_
  refine wp_seq ?_
  refine c_region ?_
  refine l_mv 1 S rfl ?_; clear S a; intro a S
  refine l_pure S (p_nilnilN mi35 rfl) rfl rfl rfl ?_; clear S a; intro a S
  refine l_nil ?_
  refine e_then ?_
  refine c_cond (b := false) S rfl (fun h => by cases h) (fun _ => ?_)
  refine wp_skip ?_
  refine e_then ?_
  refine wp_seq ?_
  refine c_region ?_
  refine l_read S H (r_loadn (m := 3) (vs := [.int .u64 0, .slice Aow4 (ints s).length cow4, .int .u8 0]) rfl List.mem_cons_self ag33 sz33 rfl rfl) rfl rfl rfl ?_; clear S a; intro a S
  have hcon := vl.plain0_ wb _ B _ 0 Aow4 cow4 s hs (fun w H => SB.own how4 H.tail) H
  refine l_call S rfl rfl Tryz.func10 rfl rfl (hcon) rfl rfl rfl ?_
  rintro e w ⟨rfl, hH⟩
  refine ⟨_, rfl, ?_⟩; clear S a; intro a S
  clear H hcon; have H := hH; clear hH
  refine l_storeAll (vs := [.int .i64 1, .string s, .int .i64 0, .int .u64 0, .float .f64 0, .bool false]) S H rfl rfl rfl sz25 (.there (Rep.skip ow4 (.there (.there .here)))) rfl (fun v hv => by simp only [List.mem_cons, List.not_mem_nil, or_false] at hv; rcases hv with rfl | rfl | rfl | rfl | rfl | rfl <;> rfl) rfl rfl ?_; clear S a H; intro w a H S
  refine l_store S H rfl rfl rfl (.there (Upd.skip ow4 (.there .here))) (by first | decide | simp [Value.cells]) (fun w u hc hz => st1 sz4 rfl hc hz) rfl rfl ?_; clear S a H; intro w a H S
  refine l_store S H rfl rfl rfl (.there (Upd.skip ow4 .here)) (by first | decide | simp [Value.cells]) (fun w u hc hz => st1 sz4 rfl hc hz) rfl rfl ?_; clear S a H; intro w a H S
  refine l_nil ?_
  refine e_then ?_
  refine wp_ret ?_
  exact r_door (v := .tuple #[.agg #[.int .i64 1, .string s, .int .i64 0, .int .u64 0, .float .f64 0, .bool false], .bool true, .bool false]) S (idle7 _ _ _) (invokes Tryz.func7 rfl rfl) (res_c3 rfl rfl rfl rfl (lva (cs := [.int .i64 1, .string s, .int .i64 0, .int .u64 0, .float .f64 0, .bool false]) ag25 sz25 rfl H (List.mem_cons_of_mem _ (List.mem_append_right _ (List.mem_cons_of_mem _ (List.mem_cons_of_mem _ List.mem_cons_self))))) (lv ag4 H (List.mem_cons_of_mem _ (List.mem_append_right _ (List.mem_cons_of_mem _ List.mem_cons_self))) rfl) (lv ag4 H (List.mem_cons_of_mem _ (List.mem_append_right _ List.mem_cons_self)) rfl)) ⟨by rw [hok]; rfl, H.tail.bring.tail.tail.tail⟩
 ·
  obtain ⟨t1, p1, rfl⟩ := hr.iface
  refine ⟨_, rfl, ?_⟩; clear S a; intro a S; clear H hcon; have H := hH; clear hH
  refine l_mv 3 S rfl ?_; clear S a; intro a S
  refine l_alloc (cs := #[.int .u64 0, .slice none 0 0, .int .u8 0]) S H rfl (fun w => al zv33) rfl rfl rfl ?_; clear S a H; intro g8 w a H S
  refine l_storeAll (vs := [.int .u64 0, .slice none 0 0, .int .u8 0]) S H rfl rfl rfl sz33 .here rfl (fun v hv => by simp only [List.mem_cons, List.not_mem_nil, or_false] at hv; rcases hv with rfl | rfl | rfl <;> rfl) rfl rfl ?_; clear S a H; intro w a H S
  refine l_mv 1 S rfl ?_; clear S a; intro a S
  refine l_nil ?_
  refine e_then ?_
  refine wp_seq ?_
  refine wp_seq ?_
  refine c_region ?_
  refine l_mv 1 S rfl ?_; clear S a; intro a S
  refine l_pure S (p_ifnilN mi35 rfl rfl) rfl rfl rfl ?_; clear S a; intro a S
  refine l_nil ?_
  refine e_then ?_
  refine c_cond (b := true) S rfl (fun _ => ?_) (fun h => by cases h)
  refine wp_seq ?_
  refine c_region ?_
  refine l_pure S (p_bld (ps := []) rfl (bld25_)) rfl rfl rfl ?_; clear S a; intro a S
  refine l_mv 1 S rfl ?_; clear S a; intro a S
  have hcon := vr.out_ wb _ B _ as_ ar ao ai hE false _ _ hr H.mid
  refine l_call S rfl rfl Tryz.func9 rfl rfl (hcon) rfl rfl rfl ?_
  rintro e w ⟨rfl, hH⟩
  refine ⟨_, rfl, ?_⟩; clear S a; intro a S
  clear H hcon; have H := hH; clear hH
  refine l_storeAll (vs := [.int .i64 0, .string ⟨#[]⟩, .int .i64 0, .int .u64 0, .float .f64 0, .bool false]) S H rfl rfl rfl sz25 (.there (Rep.skip ow4 (.there (.there .here)))) rfl (fun v hv => by simp only [List.mem_cons, List.not_mem_nil, or_false] at hv; rcases hv with rfl | rfl | rfl | rfl | rfl | rfl <;> rfl) rfl rfl ?_; clear S a H; intro w a H S
  refine l_store S H rfl rfl rfl (.there (Upd.skip ow4 (.there .here))) (by first | decide | simp [Value.cells]) (fun w u hc hz => st1 sz4 rfl hc hz) rfl rfl ?_; clear S a H; intro w a H S
  refine l_store S H rfl rfl rfl (.there (Upd.skip ow4 .here)) (by first | decide | simp [Value.cells]) (fun w u hc hz => st1 sz4 rfl hc hz) rfl rfl ?_; clear S a H; intro w a H S
  refine l_nil ?_
  refine e_then ?_
  refine wp_ret ?_
  refine e_then_ret ?_
  exact r_door (v := .tuple #[.agg #[.int .i64 0, .string ⟨#[]⟩, .int .i64 0, .int .u64 0, .float .f64 0, .bool false], .bool false, .bool false]) S (idle7 _ _ _) (invokes Tryz.func7 rfl rfl) (res_c3 rfl rfl rfl rfl (lva (cs := [.int .i64 0, .string ⟨#[]⟩, .int .i64 0, .int .u64 0, .float .f64 0, .bool false]) ag25 sz25 rfl H (List.mem_cons_of_mem _ (List.mem_append_right _ (List.mem_cons_of_mem _ (List.mem_cons_of_mem _ List.mem_cons_self))))) (lv ag4 H (List.mem_cons_of_mem _ (List.mem_append_right _ (List.mem_cons_of_mem _ List.mem_cons_self))) rfl) (lv ag4 H (List.mem_cons_of_mem _ (List.mem_append_right _ List.mem_cons_self)) rfl)) ⟨by rw [hok]; rfl, H.tail.bring.tail.tail.tail⟩
theorem new2_ (wb w0 : World) (B : Nat) (L0 : List (Nat × Obj))   (as_ ar ao ai : Addr) (hE : vr.EW B wb as_ ar ao ai) (A : Option Addr) (c : Nat) (s : ByteArray) (hs : s.size ≤ 1000000) (hsb : ∀ w, HH B wb w L0 → SB w A c (ints s)) (H : HH B wb w0 L0) : Calls Tryz.prog 8 #[.int .u8 2, .slice A (ints s).length c] w0 (vk.NvP B wb L0 ao (okE (wn.pi64 s).2) (farE (wn.pi64 s).2) (.agg #[.int .u64 (IntKind.u64.wrap (wn.pi64 s).1), .slice none 0 0, .int .u8 2])) := by
 refine c_enter (args := [.int .u8 2, .slice A (ints s).length c]) (k := 9) Tryz.func8 rfl rfl rfl (fun a S => ?_)
 refine wp_seq ?_
 refine c_region ?_
 refine l_alloc (cs := #[.int .u64 0, .slice none 0 0, .int .u8 0]) S H rfl (fun w => al zv33) rfl rfl rfl ?_; clear S a H; intro g1 w a H S
 refine l_mv 1 S rfl ?_; clear S a; intro a S
 refine l_nil ?_
 refine e_then ?_
 refine wp_seq ?_
 refine c_region ?_
 refine l_mv 2 S rfl ?_; clear S a; intro a S
 have hcon := vk.nv2_ wb _ B _ as_ ar ao ai hE A c s hs (fun w H => hsb w H.tail) H
 refine l_call S rfl rfl Tryz.func15 rfl rfl hcon rfl rfl rfl ?_
 rintro e w (⟨hok, hfar, rfl, hH⟩ | ⟨hok, e1, L2, rfl, hr, hH⟩)
 ·
  refine ⟨_, rfl, ?_⟩; clear S a; intro a S; clear H hcon; have H := hH; clear hH
  refine l_mv 2 S rfl ?_; clear S a; intro a S
  refine l_storeAll (vs := [.int .u64 (IntKind.u64.wrap (wn.pi64 s).1), .slice none 0 0, .int .u8 2]) S H rfl rfl rfl sz33 .here rfl (fun v hv => by simp only [List.mem_cons, List.not_mem_nil, or_false] at hv; rcases hv with rfl | rfl | rfl <;> rfl) rfl rfl ?_; clear S a H; intro w a H S
  refine l_mv 1 S rfl ?_; clear S a; intro a S
  refine l_nil ?_
  refine e_then ?_
  refine wp_ret ?_
  exact r_retct S rfl rfl rfl (lva (cs := [.int .u64 (IntKind.u64.wrap (wn.pi64 s).1), .slice none 0 0, .int .u8 2]) ag33 sz33 rfl H List.mem_cons_self) (.inl ⟨hok, hfar, rfl, H.tail⟩)
 ·
  refine ⟨_, rfl, ?_⟩; clear S a; intro a S; clear H hcon; have H := hH; clear hH
  refine l_mv 2 S rfl ?_; clear S a; intro a S
  refine l_storeAll (vs := [.int .u64 0, .slice none 0 0, .int .u8 0]) S H rfl rfl rfl sz33 (Rep.skip L2 .here) rfl (fun v hv => by simp only [List.mem_cons, List.not_mem_nil, or_false] at hv; rcases hv with rfl | rfl | rfl <;> rfl) rfl rfl ?_; clear S a H; intro w a H S
  refine l_mv 1 S rfl ?_; clear S a; intro a S
  refine l_nil ?_
  refine e_then ?_
  refine wp_ret ?_
  exact r_retct S rfl rfl rfl (lva (cs := [.int .u64 0, .slice none 0 0, .int .u8 0]) ag33 sz33 rfl H (List.mem_append_right _ List.mem_cons_self)) (.inr ⟨hok, e1, L2, rfl, hr, H.sub ((List.sublist_cons_self _ _).append_left _)⟩)
theorem im2_ (wb w0 : World) (B : Nat) (L0 : List (Nat × Obj))   (as_ ar ao ai : Addr) (hE : vr.EW B wb as_ ar ao ai) (s : ByteArray) (hs : s.size ≤ 1000000) (H : HH B wb w0 L0) : Calls Tryz.prog 4 #[.int .i64 2, .string s] w0 fun e w' => e = .returned (ansP (okE (wn.pi64 s).2) (farE (wn.pi64 s).2) { k := 2, n := (wn.pi64 s).1 }) ∧ HH B wb w' L0 := by
 refine c_enter_d (args := [.int .i64 2, .string s]) (k := 23) Tryz.func4 rfl rfl rfl (fun a S => ?_)
 refine wp_seq ?_
 refine c_region ?_
 refine l_alloc (cs := #[.int .i64 0, .string ⟨#[]⟩, .int .i64 0, .int .u64 0, .float .f64 0, .bool false]) S H rfl (fun w => al zv25) rfl rfl rfl ?_; clear S a H; intro g1 w a H S
 refine l_alloc (cs := #[.bool false]) S H rfl (fun w => al zv4) rfl rfl rfl ?_; clear S a H; intro g2 w a H S
 refine l_alloc (cs := #[.bool false]) S H rfl (fun w => al zv4) rfl rfl rfl ?_; clear S a H; intro g3 w a H S
 refine l_nil ?_
 refine e_then ?_
 refine wp_seq ?_
 refine c_region ?_
 refine l_pure S (p_func rfl rfl) rfl rfl rfl ?_; clear S a; intro a S
 refine l_defer (xs := []) (us := []) (vs := []) S rfl rfl rfl rfl rfl ?_; clear S a; intro a S
 refine l_nil ?_
 refine e_then ?_
 refine wp_seq ?_
 refine c_region ?_
 refine l_mv 1 S rfl ?_; clear S a; intro a S
 refine l_pure S (p_conv rfl (fun w => cv_int (Tryz.underlying3) (Tryz.underlying31) (r := 2) (by decide))) rfl rfl rfl ?_; clear S a; intro a S
 refine l_mv 1 S rfl ?_; clear S a; intro a S
 refine l_bytesOwn (s := s) S H rfl rfl Tryz.underlying9 Tryz.underlying30 Tryz.underlying5 rfl rfl rfl ?_; clear S a H; intro v_ ow4 w a how4 H S
 rw [← ints_len s] at how4
 obtain ⟨Aow4, cow4, rfl, _⟩ := how4.slice
 have hcon := new2_ wb _ B _ as_ ar ao ai hE Aow4 cow4 s hs (fun w H => SB.own how4 H) H
 refine l_call S rfl rfl Tryz.func8 rfl rfl hcon rfl rfl rfl ?_
 rintro e w (⟨hok, hfar, rfl, hH⟩ | ⟨hok, e1, L2, rfl, hr, hH⟩)
 ·
  refine ⟨_, rfl, ?_⟩; clear S a; intro a S; clear H hcon; have H := hH; clear hH
  refine l_mv 3 S rfl ?_; clear S a; intro a S
  refine l_alloc (cs := #[.int .u64 0, .slice none 0 0, .int .u8 0]) S H rfl (fun w => al zv33) rfl rfl rfl ?_; clear S a H; intro g5 w a H S
  refine l_storeAll (vs := [.int .u64 (IntKind.u64.wrap (wn.pi64 s).1), .slice none 0 0, .int .u8 2]) S H rfl rfl rfl sz33 .here rfl (fun v hv => by simp only [List.mem_cons, List.not_mem_nil, or_false] at hv; rcases hv with rfl | rfl | rfl <;> rfl) rfl rfl ?_; clear S a H; intro w a H S
  refine l_mv 1 S rfl ?_; clear S a; intro a S
  refine l_nil ?_
  refine e_then ?_
  refine wp_seq ?_
  refine wp_seq ?_
  refine c_region ?_
  refine l_mv 1 S rfl ?_; clear S a; intro a S
  refine l_pure S (p_nilnilN mi35 rfl) rfl rfl rfl ?_; clear S a; intro a S
  refine l_nil ?_
  refine e_then ?_
  refine c_cond (b := false) S rfl (fun h => by cases h) (fun _ => ?_)
  refine wp_skip ?_
  refine e_then ?_
  refine wp_seq ?_
  refine c_region ?_
  refine l_read S H (r_loadn (m := 3) (vs := [.int .u64 (IntKind.u64.wrap (wn.pi64 s).1), .slice none 0 0, .int .u8 2]) rfl List.mem_cons_self ag33 sz33 rfl rfl) rfl rfl rfl ?_; clear S a; intro a S
  have hcon := vl.plain2_ wb _ B _ (IntKind.u64.wrap (wn.pi64 s).1) none 0 0 H
  refine l_call S rfl rfl Tryz.func10 rfl rfl (hcon) rfl rfl rfl ?_
  rintro e w ⟨rfl, hH⟩
  refine ⟨_, rfl, ?_⟩; clear S a; intro a S
  clear H hcon; have H := hH; clear hH
  refine l_storeAll (vs := [.int .i64 2, .string ⟨#[]⟩, .int .i64 (IntKind.i64.wrap (IntKind.u64.wrap (wn.pi64 s).1)), .int .u64 0, .float .f64 0, .bool false]) S H rfl rfl rfl sz25 (.there (Rep.skip ow4 (.there (.there .here)))) rfl (fun v hv => by simp only [List.mem_cons, List.not_mem_nil, or_false] at hv; rcases hv with rfl | rfl | rfl | rfl | rfl | rfl <;> rfl) rfl rfl ?_; clear S a H; intro w a H S
  refine l_store S H rfl rfl rfl (.there (Upd.skip ow4 (.there .here))) (by first | decide | simp [Value.cells]) (fun w u hc hz => st1 sz4 rfl hc hz) rfl rfl ?_; clear S a H; intro w a H S
  refine l_store S H rfl rfl rfl (.there (Upd.skip ow4 .here)) (by first | decide | simp [Value.cells]) (fun w u hc hz => st1 sz4 rfl hc hz) rfl rfl ?_; clear S a H; intro w a H S
  refine l_nil ?_
  refine e_then ?_
  refine wp_ret ?_
  exact r_door (v := .tuple #[.agg #[.int .i64 2, .string ⟨#[]⟩, .int .i64 (IntKind.i64.wrap (IntKind.u64.wrap (wn.pi64 s).1)), .int .u64 0, .float .f64 0, .bool false], .bool true, .bool false]) S (idle7 _ _ _) (invokes Tryz.func7 rfl rfl) (res_c3 rfl rfl rfl rfl (lva (cs := [.int .i64 2, .string ⟨#[]⟩, .int .i64 (IntKind.i64.wrap (IntKind.u64.wrap (wn.pi64 s).1)), .int .u64 0, .float .f64 0, .bool false]) ag25 sz25 rfl H (List.mem_cons_of_mem _ (List.mem_append_right _ (List.mem_cons_of_mem _ (List.mem_cons_of_mem _ List.mem_cons_self))))) (lv ag4 H (List.mem_cons_of_mem _ (List.mem_append_right _ (List.mem_cons_of_mem _ List.mem_cons_self))) rfl) (lv ag4 H (List.mem_cons_of_mem _ (List.mem_append_right _ List.mem_cons_self)) rfl)) ⟨by rw [hok, hfar, back64 (pi_rng s)]; rfl, H.tail.bring.tail.tail.tail⟩
 ·
  obtain ⟨t1, p1, rfl⟩ := hr.iface
  refine ⟨_, rfl, ?_⟩; clear S a; intro a S; clear H hcon; have H := hH; clear hH
  refine l_mv 3 S rfl ?_; clear S a; intro a S
  refine l_alloc (cs := #[.int .u64 0, .slice none 0 0, .int .u8 0]) S H rfl (fun w => al zv33) rfl rfl rfl ?_; clear S a H; intro g8 w a H S
  refine l_storeAll (vs := [.int .u64 0, .slice none 0 0, .int .u8 0]) S H rfl rfl rfl sz33 .here rfl (fun v hv => by simp only [List.mem_cons, List.not_mem_nil, or_false] at hv; rcases hv with rfl | rfl | rfl <;> rfl) rfl rfl ?_; clear S a H; intro w a H S
  refine l_mv 1 S rfl ?_; clear S a; intro a S
  refine l_nil ?_
  refine e_then ?_
  refine wp_seq ?_
  refine wp_seq ?_
  refine c_region ?_
  refine l_mv 1 S rfl ?_; clear S a; intro a S
  refine l_pure S (p_ifnilN mi35 rfl rfl) rfl rfl rfl ?_; clear S a; intro a S
  refine l_nil ?_
  refine e_then ?_
  refine c_cond (b := true) S rfl (fun _ => ?_) (fun h => by cases h)
  refine wp_seq ?_
  refine c_region ?_
  refine l_pure S (p_bld (ps := []) rfl (bld25_)) rfl rfl rfl ?_; clear S a; intro a S
  refine l_mv 1 S rfl ?_; clear S a; intro a S
  have hcon := vr.out_ wb _ B _ as_ ar ao ai hE (farE (wn.pi64 s).2) _ _ hr H.mid
  refine l_call S rfl rfl Tryz.func9 rfl rfl (hcon) rfl rfl rfl ?_
  rintro e w ⟨rfl, hH⟩
  refine ⟨_, rfl, ?_⟩; clear S a; intro a S
  clear H hcon; have H := hH; clear hH
  refine l_storeAll (vs := [.int .i64 0, .string ⟨#[]⟩, .int .i64 0, .int .u64 0, .float .f64 0, .bool false]) S H rfl rfl rfl sz25 (.there (Rep.skip ow4 (.there (.there .here)))) rfl (fun v hv => by simp only [List.mem_cons, List.not_mem_nil, or_false] at hv; rcases hv with rfl | rfl | rfl | rfl | rfl | rfl <;> rfl) rfl rfl ?_; clear S a H; intro w a H S
  refine l_store S H rfl rfl rfl (.there (Upd.skip ow4 (.there .here))) (by first | decide | simp [Value.cells]) (fun w u hc hz => st1 sz4 rfl hc hz) rfl rfl ?_; clear S a H; intro w a H S
  refine l_store S H rfl rfl rfl (.there (Upd.skip ow4 .here)) (by first | decide | simp [Value.cells]) (fun w u hc hz => st1 sz4 rfl hc hz) rfl rfl ?_; clear S a H; intro w a H S
  refine l_nil ?_
  refine e_then ?_
  refine wp_ret ?_
  refine e_then_ret ?_
  exact r_door (v := .tuple #[.agg #[.int .i64 0, .string ⟨#[]⟩, .int .i64 0, .int .u64 0, .float .f64 0, .bool false], .bool false, .bool (farE (wn.pi64 s).2)]) S (idle7 _ _ _) (invokes Tryz.func7 rfl rfl) (res_c3 rfl rfl rfl rfl (lva (cs := [.int .i64 0, .string ⟨#[]⟩, .int .i64 0, .int .u64 0, .float .f64 0, .bool false]) ag25 sz25 rfl H (List.mem_cons_of_mem _ (List.mem_append_right _ (List.mem_cons_of_mem _ (List.mem_cons_of_mem _ List.mem_cons_self))))) (lv ag4 H (List.mem_cons_of_mem _ (List.mem_append_right _ (List.mem_cons_of_mem _ List.mem_cons_self))) rfl) (lv ag4 H (List.mem_cons_of_mem _ (List.mem_append_right _ List.mem_cons_self)) rfl)) ⟨by rw [hok]; rfl, H.tail.bring.tail.tail.tail⟩
theorem new3_ (wb w0 : World) (B : Nat) (L0 : List (Nat × Obj))   (as_ ar ao ai : Addr) (hE : vr.EW B wb as_ ar ao ai) (A : Option Addr) (c : Nat) (s : ByteArray) (hs : s.size ≤ 1000000) (hsb : ∀ w, HH B wb w L0 → SB w A c (ints s)) (H : HH B wb w0 L0) : Calls Tryz.prog 8 #[.int .u8 3, .slice A (ints s).length c] w0 (vk.NvP B wb L0 ao (okE (wn.pu64 s).2) (farE (wn.pu64 s).2) (.agg #[.int .u64 (wn.pu64 s).1, .slice none 0 0, .int .u8 3])) := by
 refine c_enter (args := [.int .u8 3, .slice A (ints s).length c]) (k := 9) Tryz.func8 rfl rfl rfl (fun a S => ?_)
 refine wp_seq ?_
 refine c_region ?_
 refine l_alloc (cs := #[.int .u64 0, .slice none 0 0, .int .u8 0]) S H rfl (fun w => al zv33) rfl rfl rfl ?_; clear S a H; intro g1 w a H S
 refine l_mv 1 S rfl ?_; clear S a; intro a S
 refine l_nil ?_
 refine e_then ?_
 refine wp_seq ?_
 refine c_region ?_
 refine l_mv 2 S rfl ?_; clear S a; intro a S
 have hcon := vk.nv3_ wb _ B _ as_ ar ao ai hE A c s hs (fun w H => hsb w H.tail) H
 refine l_call S rfl rfl Tryz.func15 rfl rfl hcon rfl rfl rfl ?_
 rintro e w (⟨hok, hfar, rfl, hH⟩ | ⟨hok, e1, L2, rfl, hr, hH⟩)
 ·
  refine ⟨_, rfl, ?_⟩; clear S a; intro a S; clear H hcon; have H := hH; clear hH
  refine l_mv 2 S rfl ?_; clear S a; intro a S
  refine l_storeAll (vs := [.int .u64 (wn.pu64 s).1, .slice none 0 0, .int .u8 3]) S H rfl rfl rfl sz33 .here rfl (fun v hv => by simp only [List.mem_cons, List.not_mem_nil, or_false] at hv; rcases hv with rfl | rfl | rfl <;> rfl) rfl rfl ?_; clear S a H; intro w a H S
  refine l_mv 1 S rfl ?_; clear S a; intro a S
  refine l_nil ?_
  refine e_then ?_
  refine wp_ret ?_
  exact r_retct S rfl rfl rfl (lva (cs := [.int .u64 (wn.pu64 s).1, .slice none 0 0, .int .u8 3]) ag33 sz33 rfl H List.mem_cons_self) (.inl ⟨hok, hfar, rfl, H.tail⟩)
 ·
  refine ⟨_, rfl, ?_⟩; clear S a; intro a S; clear H hcon; have H := hH; clear hH
  refine l_mv 2 S rfl ?_; clear S a; intro a S
  refine l_storeAll (vs := [.int .u64 0, .slice none 0 0, .int .u8 0]) S H rfl rfl rfl sz33 (Rep.skip L2 .here) rfl (fun v hv => by simp only [List.mem_cons, List.not_mem_nil, or_false] at hv; rcases hv with rfl | rfl | rfl <;> rfl) rfl rfl ?_; clear S a H; intro w a H S
  refine l_mv 1 S rfl ?_; clear S a; intro a S
  refine l_nil ?_
  refine e_then ?_
  refine wp_ret ?_
  exact r_retct S rfl rfl rfl (lva (cs := [.int .u64 0, .slice none 0 0, .int .u8 0]) ag33 sz33 rfl H (List.mem_append_right _ List.mem_cons_self)) (.inr ⟨hok, e1, L2, rfl, hr, H.sub ((List.sublist_cons_self _ _).append_left _)⟩)
theorem im3_ (wb w0 : World) (B : Nat) (L0 : List (Nat × Obj))   (as_ ar ao ai : Addr) (hE : vr.EW B wb as_ ar ao ai) (s : ByteArray) (hs : s.size ≤ 1000000) (H : HH B wb w0 L0) : Calls Tryz.prog 4 #[.int .i64 3, .string s] w0 fun e w' => e = .returned (ansP (okE (wn.pu64 s).2) (farE (wn.pu64 s).2) { k := 3, u := (wn.pu64 s).1 }) ∧ HH B wb w' L0 := by
 refine c_enter_d (args := [.int .i64 3, .string s]) (k := 23) Tryz.func4 rfl rfl rfl (fun a S => ?_)
 refine wp_seq ?_
 refine c_region ?_
 refine l_alloc (cs := #[.int .i64 0, .string ⟨#[]⟩, .int .i64 0, .int .u64 0, .float .f64 0, .bool false]) S H rfl (fun w => al zv25) rfl rfl rfl ?_; clear S a H; intro g1 w a H S
 refine l_alloc (cs := #[.bool false]) S H rfl (fun w => al zv4) rfl rfl rfl ?_; clear S a H; intro g2 w a H S
 refine l_alloc (cs := #[.bool false]) S H rfl (fun w => al zv4) rfl rfl rfl ?_; clear S a H; intro g3 w a H S
 refine l_nil ?_
 refine e_then ?_
 refine wp_seq ?_
 refine c_region ?_
 refine l_pure S (p_func rfl rfl) rfl rfl rfl ?_; clear S a; intro a S
 refine l_defer (xs := []) (us := []) (vs := []) S rfl rfl rfl rfl rfl ?_; clear S a; intro a S
 refine l_nil ?_
 refine e_then ?_
 refine wp_seq ?_
 refine c_region ?_
 refine l_mv 1 S rfl ?_; clear S a; intro a S
 refine l_pure S (p_conv rfl (fun w => cv_int (Tryz.underlying3) (Tryz.underlying31) (r := 3) (by decide))) rfl rfl rfl ?_; clear S a; intro a S
 refine l_mv 1 S rfl ?_; clear S a; intro a S
 refine l_bytesOwn (s := s) S H rfl rfl Tryz.underlying9 Tryz.underlying30 Tryz.underlying5 rfl rfl rfl ?_; clear S a H; intro v_ ow4 w a how4 H S
 rw [← ints_len s] at how4
 obtain ⟨Aow4, cow4, rfl, _⟩ := how4.slice
 have hcon := new3_ wb _ B _ as_ ar ao ai hE Aow4 cow4 s hs (fun w H => SB.own how4 H) H
 refine l_call S rfl rfl Tryz.func8 rfl rfl hcon rfl rfl rfl ?_
 rintro e w (⟨hok, hfar, rfl, hH⟩ | ⟨hok, e1, L2, rfl, hr, hH⟩)
 ·
  refine ⟨_, rfl, ?_⟩; clear S a; intro a S; clear H hcon; have H := hH; clear hH
  refine l_mv 3 S rfl ?_; clear S a; intro a S
  refine l_alloc (cs := #[.int .u64 0, .slice none 0 0, .int .u8 0]) S H rfl (fun w => al zv33) rfl rfl rfl ?_; clear S a H; intro g5 w a H S
  refine l_storeAll (vs := [.int .u64 (wn.pu64 s).1, .slice none 0 0, .int .u8 3]) S H rfl rfl rfl sz33 .here rfl (fun v hv => by simp only [List.mem_cons, List.not_mem_nil, or_false] at hv; rcases hv with rfl | rfl | rfl <;> rfl) rfl rfl ?_; clear S a H; intro w a H S
  refine l_mv 1 S rfl ?_; clear S a; intro a S
  refine l_nil ?_
  refine e_then ?_
  refine wp_seq ?_
  refine wp_seq ?_
  refine c_region ?_
  refine l_mv 1 S rfl ?_; clear S a; intro a S
  refine l_pure S (p_nilnilN mi35 rfl) rfl rfl rfl ?_; clear S a; intro a S
  refine l_nil ?_
  refine e_then ?_
  refine c_cond (b := false) S rfl (fun h => by cases h) (fun _ => ?_)
  refine wp_skip ?_
  refine e_then ?_
  refine wp_seq ?_
  refine c_region ?_
  refine l_read S H (r_loadn (m := 3) (vs := [.int .u64 (wn.pu64 s).1, .slice none 0 0, .int .u8 3]) rfl List.mem_cons_self ag33 sz33 rfl rfl) rfl rfl rfl ?_; clear S a; intro a S
  have hcon := vl.plain3_ wb _ B _ (wn.pu64 s).1 none 0 0 H
  refine l_call S rfl rfl Tryz.func10 rfl rfl (hcon) rfl rfl rfl ?_
  rintro e w ⟨rfl, hH⟩
  refine ⟨_, rfl, ?_⟩; clear S a; intro a S
  clear H hcon; have H := hH; clear hH
  refine l_storeAll (vs := [.int .i64 3, .string ⟨#[]⟩, .int .i64 0, .int .u64 (wn.pu64 s).1, .float .f64 0, .bool false]) S H rfl rfl rfl sz25 (.there (Rep.skip ow4 (.there (.there .here)))) rfl (fun v hv => by simp only [List.mem_cons, List.not_mem_nil, or_false] at hv; rcases hv with rfl | rfl | rfl | rfl | rfl | rfl <;> rfl) rfl rfl ?_; clear S a H; intro w a H S
  refine l_store S H rfl rfl rfl (.there (Upd.skip ow4 (.there .here))) (by first | decide | simp [Value.cells]) (fun w u hc hz => st1 sz4 rfl hc hz) rfl rfl ?_; clear S a H; intro w a H S
  refine l_store S H rfl rfl rfl (.there (Upd.skip ow4 .here)) (by first | decide | simp [Value.cells]) (fun w u hc hz => st1 sz4 rfl hc hz) rfl rfl ?_; clear S a H; intro w a H S
  refine l_nil ?_
  refine e_then ?_
  refine wp_ret ?_
  exact r_door (v := .tuple #[.agg #[.int .i64 3, .string ⟨#[]⟩, .int .i64 0, .int .u64 (wn.pu64 s).1, .float .f64 0, .bool false], .bool true, .bool false]) S (idle7 _ _ _) (invokes Tryz.func7 rfl rfl) (res_c3 rfl rfl rfl rfl (lva (cs := [.int .i64 3, .string ⟨#[]⟩, .int .i64 0, .int .u64 (wn.pu64 s).1, .float .f64 0, .bool false]) ag25 sz25 rfl H (List.mem_cons_of_mem _ (List.mem_append_right _ (List.mem_cons_of_mem _ (List.mem_cons_of_mem _ List.mem_cons_self))))) (lv ag4 H (List.mem_cons_of_mem _ (List.mem_append_right _ (List.mem_cons_of_mem _ List.mem_cons_self))) rfl) (lv ag4 H (List.mem_cons_of_mem _ (List.mem_append_right _ List.mem_cons_self)) rfl)) ⟨by rw [hok, hfar]; rfl, H.tail.bring.tail.tail.tail⟩
 ·
  obtain ⟨t1, p1, rfl⟩ := hr.iface
  refine ⟨_, rfl, ?_⟩; clear S a; intro a S; clear H hcon; have H := hH; clear hH
  refine l_mv 3 S rfl ?_; clear S a; intro a S
  refine l_alloc (cs := #[.int .u64 0, .slice none 0 0, .int .u8 0]) S H rfl (fun w => al zv33) rfl rfl rfl ?_; clear S a H; intro g8 w a H S
  refine l_storeAll (vs := [.int .u64 0, .slice none 0 0, .int .u8 0]) S H rfl rfl rfl sz33 .here rfl (fun v hv => by simp only [List.mem_cons, List.not_mem_nil, or_false] at hv; rcases hv with rfl | rfl | rfl <;> rfl) rfl rfl ?_; clear S a H; intro w a H S
  refine l_mv 1 S rfl ?_; clear S a; intro a S
  refine l_nil ?_
  refine e_then ?_
  refine wp_seq ?_
  refine wp_seq ?_
  refine c_region ?_
  refine l_mv 1 S rfl ?_; clear S a; intro a S
  refine l_pure S (p_ifnilN mi35 rfl rfl) rfl rfl rfl ?_; clear S a; intro a S
  refine l_nil ?_
  refine e_then ?_
  refine c_cond (b := true) S rfl (fun _ => ?_) (fun h => by cases h)
  refine wp_seq ?_
  refine c_region ?_
  refine l_pure S (p_bld (ps := []) rfl (bld25_)) rfl rfl rfl ?_; clear S a; intro a S
  refine l_mv 1 S rfl ?_; clear S a; intro a S
  have hcon := vr.out_ wb _ B _ as_ ar ao ai hE (farE (wn.pu64 s).2) _ _ hr H.mid
  refine l_call S rfl rfl Tryz.func9 rfl rfl (hcon) rfl rfl rfl ?_
  rintro e w ⟨rfl, hH⟩
  refine ⟨_, rfl, ?_⟩; clear S a; intro a S
  clear H hcon; have H := hH; clear hH
  refine l_storeAll (vs := [.int .i64 0, .string ⟨#[]⟩, .int .i64 0, .int .u64 0, .float .f64 0, .bool false]) S H rfl rfl rfl sz25 (.there (Rep.skip ow4 (.there (.there .here)))) rfl (fun v hv => by simp only [List.mem_cons, List.not_mem_nil, or_false] at hv; rcases hv with rfl | rfl | rfl | rfl | rfl | rfl <;> rfl) rfl rfl ?_; clear S a H; intro w a H S
  refine l_store S H rfl rfl rfl (.there (Upd.skip ow4 (.there .here))) (by first | decide | simp [Value.cells]) (fun w u hc hz => st1 sz4 rfl hc hz) rfl rfl ?_; clear S a H; intro w a H S
  refine l_store S H rfl rfl rfl (.there (Upd.skip ow4 .here)) (by first | decide | simp [Value.cells]) (fun w u hc hz => st1 sz4 rfl hc hz) rfl rfl ?_; clear S a H; intro w a H S
  refine l_nil ?_
  refine e_then ?_
  refine wp_ret ?_
  refine e_then_ret ?_
  exact r_door (v := .tuple #[.agg #[.int .i64 0, .string ⟨#[]⟩, .int .i64 0, .int .u64 0, .float .f64 0, .bool false], .bool false, .bool (farE (wn.pu64 s).2)]) S (idle7 _ _ _) (invokes Tryz.func7 rfl rfl) (res_c3 rfl rfl rfl rfl (lva (cs := [.int .i64 0, .string ⟨#[]⟩, .int .i64 0, .int .u64 0, .float .f64 0, .bool false]) ag25 sz25 rfl H (List.mem_cons_of_mem _ (List.mem_append_right _ (List.mem_cons_of_mem _ (List.mem_cons_of_mem _ List.mem_cons_self))))) (lv ag4 H (List.mem_cons_of_mem _ (List.mem_append_right _ (List.mem_cons_of_mem _ List.mem_cons_self))) rfl) (lv ag4 H (List.mem_cons_of_mem _ (List.mem_append_right _ List.mem_cons_self)) rfl)) ⟨by rw [hok]; rfl, H.tail.bring.tail.tail.tail⟩
theorem new4_ (wb w0 : World) (B : Nat) (L0 : List (Nat × Obj))  (hT : fz.PTab 13 B wb) (hW : PW 8 9 7 12 11 14 B wb) (hL : PL 14 B wb) (as_ ar ao ai : Addr) (hE : vr.EW B wb as_ ar ao ai) (A : Option Addr) (c : Nat) (s : ByteArray) (hs : s.size ≤ 1000000) (hsb : ∀ w, HH B wb w L0 → SB w A c (ints s)) (H : HH B wb w0 L0) : Calls Tryz.prog 8 #[.int .u8 4, .slice A (ints s).length c] w0 (vk.NvP B wb L0 ao (okE (pr.pff s).2 && fl.fin (pr.pff s).1) (farE (pr.pff s).2) (.agg #[.int .u64 ((pr.pff s).1 : Int), .slice none 0 0, .int .u8 4])) := by
 refine c_enter (args := [.int .u8 4, .slice A (ints s).length c]) (k := 9) Tryz.func8 rfl rfl rfl (fun a S => ?_)
 refine wp_seq ?_
 refine c_region ?_
 refine l_alloc (cs := #[.int .u64 0, .slice none 0 0, .int .u8 0]) S H rfl (fun w => al zv33) rfl rfl rfl ?_; clear S a H; intro g1 w a H S
 refine l_mv 1 S rfl ?_; clear S a; intro a S
 refine l_nil ?_
 refine e_then ?_
 refine wp_seq ?_
 refine c_region ?_
 refine l_mv 2 S rfl ?_; clear S a; intro a S
 have hcon := vk.nv4_ wb _ B _ hT hW hL as_ ar ao ai hE A c s hs (fun w H => hsb w H.tail) H
 refine l_call S rfl rfl Tryz.func15 rfl rfl hcon rfl rfl rfl ?_
 rintro e w (⟨hok, hfar, rfl, hH⟩ | ⟨hok, e1, L2, rfl, hr, hH⟩)
 ·
  refine ⟨_, rfl, ?_⟩; clear S a; intro a S; clear H hcon; have H := hH; clear hH
  refine l_mv 2 S rfl ?_; clear S a; intro a S
  refine l_storeAll (vs := [.int .u64 ((pr.pff s).1 : Int), .slice none 0 0, .int .u8 4]) S H rfl rfl rfl sz33 .here rfl (fun v hv => by simp only [List.mem_cons, List.not_mem_nil, or_false] at hv; rcases hv with rfl | rfl | rfl <;> rfl) rfl rfl ?_; clear S a H; intro w a H S
  refine l_mv 1 S rfl ?_; clear S a; intro a S
  refine l_nil ?_
  refine e_then ?_
  refine wp_ret ?_
  exact r_retct S rfl rfl rfl (lva (cs := [.int .u64 ((pr.pff s).1 : Int), .slice none 0 0, .int .u8 4]) ag33 sz33 rfl H List.mem_cons_self) (.inl ⟨hok, hfar, rfl, H.tail⟩)
 ·
  refine ⟨_, rfl, ?_⟩; clear S a; intro a S; clear H hcon; have H := hH; clear hH
  refine l_mv 2 S rfl ?_; clear S a; intro a S
  refine l_storeAll (vs := [.int .u64 0, .slice none 0 0, .int .u8 0]) S H rfl rfl rfl sz33 (Rep.skip L2 .here) rfl (fun v hv => by simp only [List.mem_cons, List.not_mem_nil, or_false] at hv; rcases hv with rfl | rfl | rfl <;> rfl) rfl rfl ?_; clear S a H; intro w a H S
  refine l_mv 1 S rfl ?_; clear S a; intro a S
  refine l_nil ?_
  refine e_then ?_
  refine wp_ret ?_
  exact r_retct S rfl rfl rfl (lva (cs := [.int .u64 0, .slice none 0 0, .int .u8 0]) ag33 sz33 rfl H (List.mem_append_right _ List.mem_cons_self)) (.inr ⟨hok, e1, L2, rfl, hr, H.sub ((List.sublist_cons_self _ _).append_left _)⟩)
theorem im4_ (wb w0 : World) (B : Nat) (L0 : List (Nat × Obj))  (hT : fz.PTab 13 B wb) (hW : PW 8 9 7 12 11 14 B wb) (hL : PL 14 B wb) (as_ ar ao ai : Addr) (hE : vr.EW B wb as_ ar ao ai) (s : ByteArray) (hs : s.size ≤ 1000000) (H : HH B wb w0 L0) : Calls Tryz.prog 4 #[.int .i64 4, .string s] w0 fun e w' => e = .returned (ansP (okE (pr.pff s).2 && fl.fin (pr.pff s).1) (farE (pr.pff s).2) { k := 4, f := (pr.pff s).1 }) ∧ HH B wb w' L0 := by
 refine c_enter_d (args := [.int .i64 4, .string s]) (k := 23) Tryz.func4 rfl rfl rfl (fun a S => ?_)
 refine wp_seq ?_
 refine c_region ?_
 refine l_alloc (cs := #[.int .i64 0, .string ⟨#[]⟩, .int .i64 0, .int .u64 0, .float .f64 0, .bool false]) S H rfl (fun w => al zv25) rfl rfl rfl ?_; clear S a H; intro g1 w a H S
 refine l_alloc (cs := #[.bool false]) S H rfl (fun w => al zv4) rfl rfl rfl ?_; clear S a H; intro g2 w a H S
 refine l_alloc (cs := #[.bool false]) S H rfl (fun w => al zv4) rfl rfl rfl ?_; clear S a H; intro g3 w a H S
 refine l_nil ?_
 refine e_then ?_
 refine wp_seq ?_
 refine c_region ?_
 refine l_pure S (p_func rfl rfl) rfl rfl rfl ?_; clear S a; intro a S
 refine l_defer (xs := []) (us := []) (vs := []) S rfl rfl rfl rfl rfl ?_; clear S a; intro a S
 refine l_nil ?_
 refine e_then ?_
 refine wp_seq ?_
 refine c_region ?_
 refine l_mv 1 S rfl ?_; clear S a; intro a S
 refine l_pure S (p_conv rfl (fun w => cv_int (Tryz.underlying3) (Tryz.underlying31) (r := 4) (by decide))) rfl rfl rfl ?_; clear S a; intro a S
 refine l_mv 1 S rfl ?_; clear S a; intro a S
 refine l_bytesOwn (s := s) S H rfl rfl Tryz.underlying9 Tryz.underlying30 Tryz.underlying5 rfl rfl rfl ?_; clear S a H; intro v_ ow4 w a how4 H S
 rw [← ints_len s] at how4
 obtain ⟨Aow4, cow4, rfl, _⟩ := how4.slice
 have hcon := new4_ wb _ B _ hT hW hL as_ ar ao ai hE Aow4 cow4 s hs (fun w H => SB.own how4 H) H
 refine l_call S rfl rfl Tryz.func8 rfl rfl hcon rfl rfl rfl ?_
 rintro e w (⟨hok, hfar, rfl, hH⟩ | ⟨hok, e1, L2, rfl, hr, hH⟩)
 ·
  refine ⟨_, rfl, ?_⟩; clear S a; intro a S; clear H hcon; have H := hH; clear hH
  refine l_mv 3 S rfl ?_; clear S a; intro a S
  refine l_alloc (cs := #[.int .u64 0, .slice none 0 0, .int .u8 0]) S H rfl (fun w => al zv33) rfl rfl rfl ?_; clear S a H; intro g5 w a H S
  refine l_storeAll (vs := [.int .u64 ((pr.pff s).1 : Int), .slice none 0 0, .int .u8 4]) S H rfl rfl rfl sz33 .here rfl (fun v hv => by simp only [List.mem_cons, List.not_mem_nil, or_false] at hv; rcases hv with rfl | rfl | rfl <;> rfl) rfl rfl ?_; clear S a H; intro w a H S
  refine l_mv 1 S rfl ?_; clear S a; intro a S
  refine l_nil ?_
  refine e_then ?_
  refine wp_seq ?_
  refine wp_seq ?_
  refine c_region ?_
  refine l_mv 1 S rfl ?_; clear S a; intro a S
  refine l_pure S (p_nilnilN mi35 rfl) rfl rfl rfl ?_; clear S a; intro a S
  refine l_nil ?_
  refine e_then ?_
  refine c_cond (b := false) S rfl (fun h => by cases h) (fun _ => ?_)
  refine wp_skip ?_
  refine e_then ?_
  refine wp_seq ?_
  refine c_region ?_
  refine l_read S H (r_loadn (m := 3) (vs := [.int .u64 ((pr.pff s).1 : Int), .slice none 0 0, .int .u8 4]) rfl List.mem_cons_self ag33 sz33 rfl rfl) rfl rfl rfl ?_; clear S a; intro a S
  have hcon := vl.plain4_ wb _ B _ ((pr.pff s).1 : Int) none 0 0 H
  refine l_call S rfl rfl Tryz.func10 rfl rfl (hcon) rfl rfl rfl ?_
  rintro e w ⟨rfl, hH⟩
  refine ⟨_, rfl, ?_⟩; clear S a; intro a S
  clear H hcon; have H := hH; clear hH
  refine l_storeAll (vs := [.int .i64 4, .string ⟨#[]⟩, .int .i64 0, .int .u64 0, .float .f64 ((pr.pff s).1 : Int).toNat, .bool false]) S H rfl rfl rfl sz25 (.there (Rep.skip ow4 (.there (.there .here)))) rfl (fun v hv => by simp only [List.mem_cons, List.not_mem_nil, or_false] at hv; rcases hv with rfl | rfl | rfl | rfl | rfl | rfl <;> rfl) rfl rfl ?_; clear S a H; intro w a H S
  refine l_store S H rfl rfl rfl (.there (Upd.skip ow4 (.there .here))) (by first | decide | simp [Value.cells]) (fun w u hc hz => st1 sz4 rfl hc hz) rfl rfl ?_; clear S a H; intro w a H S
  refine l_store S H rfl rfl rfl (.there (Upd.skip ow4 .here)) (by first | decide | simp [Value.cells]) (fun w u hc hz => st1 sz4 rfl hc hz) rfl rfl ?_; clear S a H; intro w a H S
  refine l_nil ?_
  refine e_then ?_
  refine wp_ret ?_
  exact r_door (v := .tuple #[.agg #[.int .i64 4, .string ⟨#[]⟩, .int .i64 0, .int .u64 0, .float .f64 ((pr.pff s).1 : Int).toNat, .bool false], .bool true, .bool false]) S (idle7 _ _ _) (invokes Tryz.func7 rfl rfl) (res_c3 rfl rfl rfl rfl (lva (cs := [.int .i64 4, .string ⟨#[]⟩, .int .i64 0, .int .u64 0, .float .f64 ((pr.pff s).1 : Int).toNat, .bool false]) ag25 sz25 rfl H (List.mem_cons_of_mem _ (List.mem_append_right _ (List.mem_cons_of_mem _ (List.mem_cons_of_mem _ List.mem_cons_self))))) (lv ag4 H (List.mem_cons_of_mem _ (List.mem_append_right _ (List.mem_cons_of_mem _ List.mem_cons_self))) rfl) (lv ag4 H (List.mem_cons_of_mem _ (List.mem_append_right _ List.mem_cons_self)) rfl)) ⟨by rw [hok, hfar, Int.toNat_natCast]; rfl, H.tail.bring.tail.tail.tail⟩
 ·
  obtain ⟨t1, p1, rfl⟩ := hr.iface
  refine ⟨_, rfl, ?_⟩; clear S a; intro a S; clear H hcon; have H := hH; clear hH
  refine l_mv 3 S rfl ?_; clear S a; intro a S
  refine l_alloc (cs := #[.int .u64 0, .slice none 0 0, .int .u8 0]) S H rfl (fun w => al zv33) rfl rfl rfl ?_; clear S a H; intro g8 w a H S
  refine l_storeAll (vs := [.int .u64 0, .slice none 0 0, .int .u8 0]) S H rfl rfl rfl sz33 .here rfl (fun v hv => by simp only [List.mem_cons, List.not_mem_nil, or_false] at hv; rcases hv with rfl | rfl | rfl <;> rfl) rfl rfl ?_; clear S a H; intro w a H S
  refine l_mv 1 S rfl ?_; clear S a; intro a S
  refine l_nil ?_
  refine e_then ?_
  refine wp_seq ?_
  refine wp_seq ?_
  refine c_region ?_
  refine l_mv 1 S rfl ?_; clear S a; intro a S
  refine l_pure S (p_ifnilN mi35 rfl rfl) rfl rfl rfl ?_; clear S a; intro a S
  refine l_nil ?_
  refine e_then ?_
  refine c_cond (b := true) S rfl (fun _ => ?_) (fun h => by cases h)
  refine wp_seq ?_
  refine c_region ?_
  refine l_pure S (p_bld (ps := []) rfl (bld25_)) rfl rfl rfl ?_; clear S a; intro a S
  refine l_mv 1 S rfl ?_; clear S a; intro a S
  have hcon := vr.out_ wb _ B _ as_ ar ao ai hE (farE (pr.pff s).2) _ _ hr H.mid
  refine l_call S rfl rfl Tryz.func9 rfl rfl (hcon) rfl rfl rfl ?_
  rintro e w ⟨rfl, hH⟩
  refine ⟨_, rfl, ?_⟩; clear S a; intro a S
  clear H hcon; have H := hH; clear hH
  refine l_storeAll (vs := [.int .i64 0, .string ⟨#[]⟩, .int .i64 0, .int .u64 0, .float .f64 0, .bool false]) S H rfl rfl rfl sz25 (.there (Rep.skip ow4 (.there (.there .here)))) rfl (fun v hv => by simp only [List.mem_cons, List.not_mem_nil, or_false] at hv; rcases hv with rfl | rfl | rfl | rfl | rfl | rfl <;> rfl) rfl rfl ?_; clear S a H; intro w a H S
  refine l_store S H rfl rfl rfl (.there (Upd.skip ow4 (.there .here))) (by first | decide | simp [Value.cells]) (fun w u hc hz => st1 sz4 rfl hc hz) rfl rfl ?_; clear S a H; intro w a H S
  refine l_store S H rfl rfl rfl (.there (Upd.skip ow4 .here)) (by first | decide | simp [Value.cells]) (fun w u hc hz => st1 sz4 rfl hc hz) rfl rfl ?_; clear S a H; intro w a H S
  refine l_nil ?_
  refine e_then ?_
  refine wp_ret ?_
  refine e_then_ret ?_
  exact r_door (v := .tuple #[.agg #[.int .i64 0, .string ⟨#[]⟩, .int .i64 0, .int .u64 0, .float .f64 0, .bool false], .bool false, .bool (farE (pr.pff s).2)]) S (idle7 _ _ _) (invokes Tryz.func7 rfl rfl) (res_c3 rfl rfl rfl rfl (lva (cs := [.int .i64 0, .string ⟨#[]⟩, .int .i64 0, .int .u64 0, .float .f64 0, .bool false]) ag25 sz25 rfl H (List.mem_cons_of_mem _ (List.mem_append_right _ (List.mem_cons_of_mem _ (List.mem_cons_of_mem _ List.mem_cons_self))))) (lv ag4 H (List.mem_cons_of_mem _ (List.mem_append_right _ (List.mem_cons_of_mem _ List.mem_cons_self))) rfl) (lv ag4 H (List.mem_cons_of_mem _ (List.mem_append_right _ List.mem_cons_self)) rfl)) ⟨by rw [hok]; rfl, H.tail.bring.tail.tail.tail⟩
theorem new5_ (wb w0 : World) (B : Nat) (L0 : List (Nat × Obj))   (as_ ar ao ai : Addr) (hE : vr.EW B wb as_ ar ao ai) (A : Option Addr) (c : Nat) (s : ByteArray) (hs : s.size ≤ 1000000) (hsb : ∀ w, HH B wb w L0 → SB w A c (ints s)) (H : HH B wb w0 L0) : Calls Tryz.prog 8 #[.int .u8 5, .slice A (ints s).length c] w0 (vk.NvP B wb L0 ao (inW s tTrue || inW s tFalse) false (.agg #[.int .u64 (bif inW s tTrue then 1 else 0), .slice none 0 0, .int .u8 5])) := by
 refine c_enter (args := [.int .u8 5, .slice A (ints s).length c]) (k := 9) Tryz.func8 rfl rfl rfl (fun a S => ?_)
 refine wp_seq ?_
 refine c_region ?_
 refine l_alloc (cs := #[.int .u64 0, .slice none 0 0, .int .u8 0]) S H rfl (fun w => al zv33) rfl rfl rfl ?_; clear S a H; intro g1 w a H S
 refine l_mv 1 S rfl ?_; clear S a; intro a S
 refine l_nil ?_
 refine e_then ?_
 refine wp_seq ?_
 refine c_region ?_
 refine l_mv 2 S rfl ?_; clear S a; intro a S
 have hcon := vk.nv5_ wb _ B _ as_ ar ao ai hE A c s hs (fun w H => hsb w H.tail) H
 refine l_call S rfl rfl Tryz.func15 rfl rfl hcon rfl rfl rfl ?_
 rintro e w (⟨hok, hfar, rfl, hH⟩ | ⟨hok, e1, L2, rfl, hr, hH⟩)
 ·
  refine ⟨_, rfl, ?_⟩; clear S a; intro a S; clear H hcon; have H := hH; clear hH
  refine l_mv 2 S rfl ?_; clear S a; intro a S
  refine l_storeAll (vs := [.int .u64 (bif inW s tTrue then 1 else 0), .slice none 0 0, .int .u8 5]) S H rfl rfl rfl sz33 .here rfl (fun v hv => by simp only [List.mem_cons, List.not_mem_nil, or_false] at hv; rcases hv with rfl | rfl | rfl <;> rfl) rfl rfl ?_; clear S a H; intro w a H S
  refine l_mv 1 S rfl ?_; clear S a; intro a S
  refine l_nil ?_
  refine e_then ?_
  refine wp_ret ?_
  exact r_retct S rfl rfl rfl (lva (cs := [.int .u64 (bif inW s tTrue then 1 else 0), .slice none 0 0, .int .u8 5]) ag33 sz33 rfl H List.mem_cons_self) (.inl ⟨hok, hfar, rfl, H.tail⟩)
 ·
  refine ⟨_, rfl, ?_⟩; clear S a; intro a S; clear H hcon; have H := hH; clear hH
  refine l_mv 2 S rfl ?_; clear S a; intro a S
  refine l_storeAll (vs := [.int .u64 0, .slice none 0 0, .int .u8 0]) S H rfl rfl rfl sz33 (Rep.skip L2 .here) rfl (fun v hv => by simp only [List.mem_cons, List.not_mem_nil, or_false] at hv; rcases hv with rfl | rfl | rfl <;> rfl) rfl rfl ?_; clear S a H; intro w a H S
  refine l_mv 1 S rfl ?_; clear S a; intro a S
  refine l_nil ?_
  refine e_then ?_
  refine wp_ret ?_
  exact r_retct S rfl rfl rfl (lva (cs := [.int .u64 0, .slice none 0 0, .int .u8 0]) ag33 sz33 rfl H (List.mem_append_right _ List.mem_cons_self)) (.inr ⟨hok, e1, L2, rfl, hr, H.sub ((List.sublist_cons_self _ _).append_left _)⟩)
theorem im5_ (wb w0 : World) (B : Nat) (L0 : List (Nat × Obj))   (as_ ar ao ai : Addr) (hE : vr.EW B wb as_ ar ao ai) (s : ByteArray) (hs : s.size ≤ 1000000) (H : HH B wb w0 L0) : Calls Tryz.prog 4 #[.int .i64 5, .string s] w0 fun e w' => e = .returned (ansP (inW s tTrue || inW s tFalse) false { k := 5, b := inW s tTrue }) ∧ HH B wb w' L0 := by
 refine c_enter_d (args := [.int .i64 5, .string s]) (k := 23) Tryz.func4 rfl rfl rfl (fun a S => ?_)
 refine wp_seq ?_
 refine c_region ?_
 refine l_alloc (cs := #[.int .i64 0, .string ⟨#[]⟩, .int .i64 0, .int .u64 0, .float .f64 0, .bool false]) S H rfl (fun w => al zv25) rfl rfl rfl ?_; clear S a H; intro g1 w a H S
 refine l_alloc (cs := #[.bool false]) S H rfl (fun w => al zv4) rfl rfl rfl ?_; clear S a H; intro g2 w a H S
 refine l_alloc (cs := #[.bool false]) S H rfl (fun w => al zv4) rfl rfl rfl ?_; clear S a H; intro g3 w a H S
 refine l_nil ?_
 refine e_then ?_
 refine wp_seq ?_
 refine c_region ?_
 refine l_pure S (p_func rfl rfl) rfl rfl rfl ?_; clear S a; intro a S
 refine l_defer (xs := []) (us := []) (vs := []) S rfl rfl rfl rfl rfl ?_; clear S a; intro a S
 refine l_nil ?_
 refine e_then ?_
 refine wp_seq ?_
 refine c_region ?_
 refine l_mv 1 S rfl ?_; clear S a; intro a S
 refine l_pure S (p_conv rfl (fun w => cv_int (Tryz.underlying3) (Tryz.underlying31) (r := 5) (by decide))) rfl rfl rfl ?_; clear S a; intro a S
 refine l_mv 1 S rfl ?_; clear S a; intro a S
 refine l_bytesOwn (s := s) S H rfl rfl Tryz.underlying9 Tryz.underlying30 Tryz.underlying5 rfl rfl rfl ?_; clear S a H; intro v_ ow4 w a how4 H S
 rw [← ints_len s] at how4
 obtain ⟨Aow4, cow4, rfl, _⟩ := how4.slice
 have hcon := new5_ wb _ B _ as_ ar ao ai hE Aow4 cow4 s hs (fun w H => SB.own how4 H) H
 refine l_call S rfl rfl Tryz.func8 rfl rfl hcon rfl rfl rfl ?_
 rintro e w (⟨hok, hfar, rfl, hH⟩ | ⟨hok, e1, L2, rfl, hr, hH⟩)
 ·
  refine ⟨_, rfl, ?_⟩; clear S a; intro a S; clear H hcon; have H := hH; clear hH
  refine l_mv 3 S rfl ?_; clear S a; intro a S
  refine l_alloc (cs := #[.int .u64 0, .slice none 0 0, .int .u8 0]) S H rfl (fun w => al zv33) rfl rfl rfl ?_; clear S a H; intro g5 w a H S
  refine l_storeAll (vs := [.int .u64 (bif inW s tTrue then 1 else 0), .slice none 0 0, .int .u8 5]) S H rfl rfl rfl sz33 .here rfl (fun v hv => by simp only [List.mem_cons, List.not_mem_nil, or_false] at hv; rcases hv with rfl | rfl | rfl <;> rfl) rfl rfl ?_; clear S a H; intro w a H S
  refine l_mv 1 S rfl ?_; clear S a; intro a S
  refine l_nil ?_
  refine e_then ?_
  refine wp_seq ?_
  refine wp_seq ?_
  refine c_region ?_
  refine l_mv 1 S rfl ?_; clear S a; intro a S
  refine l_pure S (p_nilnilN mi35 rfl) rfl rfl rfl ?_; clear S a; intro a S
  refine l_nil ?_
  refine e_then ?_
  refine c_cond (b := false) S rfl (fun h => by cases h) (fun _ => ?_)
  refine wp_skip ?_
  refine e_then ?_
  refine wp_seq ?_
  refine c_region ?_
  refine l_read S H (r_loadn (m := 3) (vs := [.int .u64 (bif inW s tTrue then 1 else 0), .slice none 0 0, .int .u8 5]) rfl List.mem_cons_self ag33 sz33 rfl rfl) rfl rfl rfl ?_; clear S a; intro a S
  have hcon := vl.plain5_ wb _ B _ (bif inW s tTrue then 1 else 0) none 0 0 H
  refine l_call S rfl rfl Tryz.func10 rfl rfl (hcon) rfl rfl rfl ?_
  rintro e w ⟨rfl, hH⟩
  refine ⟨_, rfl, ?_⟩; clear S a; intro a S
  clear H hcon; have H := hH; clear hH
  refine l_storeAll (vs := [.int .i64 5, .string ⟨#[]⟩, .int .i64 0, .int .u64 0, .float .f64 0, .bool ((bif inW s tTrue then 1 else 0) != 0)]) S H rfl rfl rfl sz25 (.there (Rep.skip ow4 (.there (.there .here)))) rfl (fun v hv => by simp only [List.mem_cons, List.not_mem_nil, or_false] at hv; rcases hv with rfl | rfl | rfl | rfl | rfl | rfl <;> rfl) rfl rfl ?_; clear S a H; intro w a H S
  refine l_store S H rfl rfl rfl (.there (Upd.skip ow4 (.there .here))) (by first | decide | simp [Value.cells]) (fun w u hc hz => st1 sz4 rfl hc hz) rfl rfl ?_; clear S a H; intro w a H S
  refine l_store S H rfl rfl rfl (.there (Upd.skip ow4 .here)) (by first | decide | simp [Value.cells]) (fun w u hc hz => st1 sz4 rfl hc hz) rfl rfl ?_; clear S a H; intro w a H S
  refine l_nil ?_
  refine e_then ?_
  refine wp_ret ?_
  exact r_door (v := .tuple #[.agg #[.int .i64 5, .string ⟨#[]⟩, .int .i64 0, .int .u64 0, .float .f64 0, .bool ((bif inW s tTrue then 1 else 0) != 0)], .bool true, .bool false]) S (idle7 _ _ _) (invokes Tryz.func7 rfl rfl) (res_c3 rfl rfl rfl rfl (lva (cs := [.int .i64 5, .string ⟨#[]⟩, .int .i64 0, .int .u64 0, .float .f64 0, .bool ((bif inW s tTrue then 1 else 0) != 0)]) ag25 sz25 rfl H (List.mem_cons_of_mem _ (List.mem_append_right _ (List.mem_cons_of_mem _ (List.mem_cons_of_mem _ List.mem_cons_self))))) (lv ag4 H (List.mem_cons_of_mem _ (List.mem_append_right _ (List.mem_cons_of_mem _ List.mem_cons_self))) rfl) (lv ag4 H (List.mem_cons_of_mem _ (List.mem_append_right _ List.mem_cons_self)) rfl)) ⟨by rw [hok, b01b]; rfl, H.tail.bring.tail.tail.tail⟩
 ·
  obtain ⟨t1, p1, rfl⟩ := hr.iface
  refine ⟨_, rfl, ?_⟩; clear S a; intro a S; clear H hcon; have H := hH; clear hH
  refine l_mv 3 S rfl ?_; clear S a; intro a S
  refine l_alloc (cs := #[.int .u64 0, .slice none 0 0, .int .u8 0]) S H rfl (fun w => al zv33) rfl rfl rfl ?_; clear S a H; intro g8 w a H S
  refine l_storeAll (vs := [.int .u64 0, .slice none 0 0, .int .u8 0]) S H rfl rfl rfl sz33 .here rfl (fun v hv => by simp only [List.mem_cons, List.not_mem_nil, or_false] at hv; rcases hv with rfl | rfl | rfl <;> rfl) rfl rfl ?_; clear S a H; intro w a H S
  refine l_mv 1 S rfl ?_; clear S a; intro a S
  refine l_nil ?_
  refine e_then ?_
  refine wp_seq ?_
  refine wp_seq ?_
  refine c_region ?_
  refine l_mv 1 S rfl ?_; clear S a; intro a S
  refine l_pure S (p_ifnilN mi35 rfl rfl) rfl rfl rfl ?_; clear S a; intro a S
  refine l_nil ?_
  refine e_then ?_
  refine c_cond (b := true) S rfl (fun _ => ?_) (fun h => by cases h)
  refine wp_seq ?_
  refine c_region ?_
  refine l_pure S (p_bld (ps := []) rfl (bld25_)) rfl rfl rfl ?_; clear S a; intro a S
  refine l_mv 1 S rfl ?_; clear S a; intro a S
  have hcon := vr.out_ wb _ B _ as_ ar ao ai hE false _ _ hr H.mid
  refine l_call S rfl rfl Tryz.func9 rfl rfl (hcon) rfl rfl rfl ?_
  rintro e w ⟨rfl, hH⟩
  refine ⟨_, rfl, ?_⟩; clear S a; intro a S
  clear H hcon; have H := hH; clear hH
  refine l_storeAll (vs := [.int .i64 0, .string ⟨#[]⟩, .int .i64 0, .int .u64 0, .float .f64 0, .bool false]) S H rfl rfl rfl sz25 (.there (Rep.skip ow4 (.there (.there .here)))) rfl (fun v hv => by simp only [List.mem_cons, List.not_mem_nil, or_false] at hv; rcases hv with rfl | rfl | rfl | rfl | rfl | rfl <;> rfl) rfl rfl ?_; clear S a H; intro w a H S
  refine l_store S H rfl rfl rfl (.there (Upd.skip ow4 (.there .here))) (by first | decide | simp [Value.cells]) (fun w u hc hz => st1 sz4 rfl hc hz) rfl rfl ?_; clear S a H; intro w a H S
  refine l_store S H rfl rfl rfl (.there (Upd.skip ow4 .here)) (by first | decide | simp [Value.cells]) (fun w u hc hz => st1 sz4 rfl hc hz) rfl rfl ?_; clear S a H; intro w a H S
  refine l_nil ?_
  refine e_then ?_
  refine wp_ret ?_
  refine e_then_ret ?_
  exact r_door (v := .tuple #[.agg #[.int .i64 0, .string ⟨#[]⟩, .int .i64 0, .int .u64 0, .float .f64 0, .bool false], .bool false, .bool false]) S (idle7 _ _ _) (invokes Tryz.func7 rfl rfl) (res_c3 rfl rfl rfl rfl (lva (cs := [.int .i64 0, .string ⟨#[]⟩, .int .i64 0, .int .u64 0, .float .f64 0, .bool false]) ag25 sz25 rfl H (List.mem_cons_of_mem _ (List.mem_append_right _ (List.mem_cons_of_mem _ (List.mem_cons_of_mem _ List.mem_cons_self))))) (lv ag4 H (List.mem_cons_of_mem _ (List.mem_append_right _ (List.mem_cons_of_mem _ List.mem_cons_self))) rfl) (lv ag4 H (List.mem_cons_of_mem _ (List.mem_append_right _ List.mem_cons_self)) rfl)) ⟨by rw [hok]; rfl, H.tail.bring.tail.tail.tail⟩
theorem new0_ (wb w0 : World) (B : Nat) (L0 : List (Nat × Obj))   (as_ ar ao ai : Addr) (hE : vr.EW B wb as_ ar ao ai) (A : Option Addr) (c : Nat) (s : ByteArray) (hs : s.size ≤ 1000000) (hsb : ∀ w, HH B wb w L0 → SB w A c (ints s)) (H : HH B wb w0 L0) : Calls Tryz.prog 8 #[.int .u8 0, .slice A (ints s).length c] w0 (vk.NvP B wb L0 ao false false vk.ZL) := by
 refine c_enter (args := [.int .u8 0, .slice A (ints s).length c]) (k := 9) Tryz.func8 rfl rfl rfl (fun a S => ?_)
 refine wp_seq ?_
 refine c_region ?_
 refine l_alloc (cs := #[.int .u64 0, .slice none 0 0, .int .u8 0]) S H rfl (fun w => al zv33) rfl rfl rfl ?_; clear S a H; intro g1 w a H S
 refine l_mv 1 S rfl ?_; clear S a; intro a S
 refine l_nil ?_
 refine e_then ?_
 refine wp_seq ?_
 refine c_region ?_
 refine l_mv 2 S rfl ?_; clear S a; intro a S
 have hcon := vk.nv0_ wb _ B _ as_ ar ao ai hE A c s hs (fun w H => hsb w H.tail) H
 refine l_call S rfl rfl Tryz.func15 rfl rfl hcon rfl rfl rfl ?_
 rintro e w (⟨hok, hfar, rfl, hH⟩ | ⟨hok, e1, L2, rfl, hr, hH⟩)
 ·
  refine ⟨_, rfl, ?_⟩; clear S a; intro a S; clear H hcon; have H := hH; clear hH
  refine l_mv 2 S rfl ?_; clear S a; intro a S
  refine l_storeAll (vs := [.int .u64 0, .slice none 0 0, .int .u8 0]) S H rfl rfl rfl sz33 .here rfl (fun v hv => by simp only [List.mem_cons, List.not_mem_nil, or_false] at hv; rcases hv with rfl | rfl | rfl <;> rfl) rfl rfl ?_; clear S a H; intro w a H S
  refine l_mv 1 S rfl ?_; clear S a; intro a S
  refine l_nil ?_
  refine e_then ?_
  refine wp_ret ?_
  exact r_retct S rfl rfl rfl (lva (cs := [.int .u64 0, .slice none 0 0, .int .u8 0]) ag33 sz33 rfl H List.mem_cons_self) (.inl ⟨hok, hfar, rfl, H.tail⟩)
 ·
  refine ⟨_, rfl, ?_⟩; clear S a; intro a S; clear H hcon; have H := hH; clear hH
  refine l_mv 2 S rfl ?_; clear S a; intro a S
  refine l_storeAll (vs := [.int .u64 0, .slice none 0 0, .int .u8 0]) S H rfl rfl rfl sz33 (Rep.skip L2 .here) rfl (fun v hv => by simp only [List.mem_cons, List.not_mem_nil, or_false] at hv; rcases hv with rfl | rfl | rfl <;> rfl) rfl rfl ?_; clear S a H; intro w a H S
  refine l_mv 1 S rfl ?_; clear S a; intro a S
  refine l_nil ?_
  refine e_then ?_
  refine wp_ret ?_
  exact r_retct S rfl rfl rfl (lva (cs := [.int .u64 0, .slice none 0 0, .int .u8 0]) ag33 sz33 rfl H (List.mem_append_right _ List.mem_cons_self)) (.inr ⟨hok, e1, L2, rfl, hr, H.sub ((List.sublist_cons_self _ _).append_left _)⟩)
theorem im0_ (wb w0 : World) (B : Nat) (L0 : List (Nat × Obj))   (as_ ar ao ai : Addr) (hE : vr.EW B wb as_ ar ao ai) (s : ByteArray) (hs : s.size ≤ 1000000) (H : HH B wb w0 L0) : Calls Tryz.prog 4 #[.int .i64 0, .string s] w0 fun e w' => e = .returned (ansP false false {}) ∧ HH B wb w' L0 := by
 refine c_enter_d (args := [.int .i64 0, .string s]) (k := 23) Tryz.func4 rfl rfl rfl (fun a S => ?_)
 refine wp_seq ?_
 refine c_region ?_
 refine l_alloc (cs := #[.int .i64 0, .string ⟨#[]⟩, .int .i64 0, .int .u64 0, .float .f64 0, .bool false]) S H rfl (fun w => al zv25) rfl rfl rfl ?_; clear S a H; intro g1 w a H S
 refine l_alloc (cs := #[.bool false]) S H rfl (fun w => al zv4) rfl rfl rfl ?_; clear S a H; intro g2 w a H S
 refine l_alloc (cs := #[.bool false]) S H rfl (fun w => al zv4) rfl rfl rfl ?_; clear S a H; intro g3 w a H S
 refine l_nil ?_
 refine e_then ?_
 refine wp_seq ?_
 refine c_region ?_
 refine l_pure S (p_func rfl rfl) rfl rfl rfl ?_; clear S a; intro a S
 refine l_defer (xs := []) (us := []) (vs := []) S rfl rfl rfl rfl rfl ?_; clear S a; intro a S
 refine l_nil ?_
 refine e_then ?_
 refine wp_seq ?_
 refine c_region ?_
 refine l_mv 1 S rfl ?_; clear S a; intro a S
 refine l_pure S (p_conv rfl (fun w => cv_int (Tryz.underlying3) (Tryz.underlying31) (r := 0) (by decide))) rfl rfl rfl ?_; clear S a; intro a S
 refine l_mv 1 S rfl ?_; clear S a; intro a S
 refine l_bytesOwn (s := s) S H rfl rfl Tryz.underlying9 Tryz.underlying30 Tryz.underlying5 rfl rfl rfl ?_; clear S a H; intro v_ ow4 w a how4 H S
 rw [← ints_len s] at how4
 obtain ⟨Aow4, cow4, rfl, _⟩ := how4.slice
 have hcon := new0_ wb _ B _ as_ ar ao ai hE Aow4 cow4 s hs (fun w H => SB.own how4 H) H
 refine l_call S rfl rfl Tryz.func8 rfl rfl hcon rfl rfl rfl ?_
 rintro e w (⟨hok, hfar, rfl, hH⟩ | ⟨hok, e1, L2, rfl, hr, hH⟩)
 ·
  exact absurd hok (by decide)
 ·
  obtain ⟨t1, p1, rfl⟩ := hr.iface
  refine ⟨_, rfl, ?_⟩; clear S a; intro a S; clear H hcon; have H := hH; clear hH
  refine l_mv 3 S rfl ?_; clear S a; intro a S
  refine l_alloc (cs := #[.int .u64 0, .slice none 0 0, .int .u8 0]) S H rfl (fun w => al zv33) rfl rfl rfl ?_; clear S a H; intro g5 w a H S
  refine l_storeAll (vs := [.int .u64 0, .slice none 0 0, .int .u8 0]) S H rfl rfl rfl sz33 .here rfl (fun v hv => by simp only [List.mem_cons, List.not_mem_nil, or_false] at hv; rcases hv with rfl | rfl | rfl <;> rfl) rfl rfl ?_; clear S a H; intro w a H S
  refine l_mv 1 S rfl ?_; clear S a; intro a S
  refine l_nil ?_
  refine e_then ?_
  refine wp_seq ?_
  refine wp_seq ?_
  refine c_region ?_
  refine l_mv 1 S rfl ?_; clear S a; intro a S
  refine l_pure S (p_ifnilN mi35 rfl rfl) rfl rfl rfl ?_; clear S a; intro a S
  refine l_nil ?_
  refine e_then ?_
  refine c_cond (b := true) S rfl (fun _ => ?_) (fun h => by cases h)
  refine wp_seq ?_
  refine c_region ?_
  refine l_pure S (p_bld (ps := []) rfl (bld25_)) rfl rfl rfl ?_; clear S a; intro a S
  refine l_mv 1 S rfl ?_; clear S a; intro a S
  have hcon := vr.out_ wb _ B _ as_ ar ao ai hE false _ _ hr H.mid
  refine l_call S rfl rfl Tryz.func9 rfl rfl (hcon) rfl rfl rfl ?_
  rintro e w ⟨rfl, hH⟩
  refine ⟨_, rfl, ?_⟩; clear S a; intro a S
  clear H hcon; have H := hH; clear hH
  refine l_storeAll (vs := [.int .i64 0, .string ⟨#[]⟩, .int .i64 0, .int .u64 0, .float .f64 0, .bool false]) S H rfl rfl rfl sz25 (.there (Rep.skip ow4 (.there (.there .here)))) rfl (fun v hv => by simp only [List.mem_cons, List.not_mem_nil, or_false] at hv; rcases hv with rfl | rfl | rfl | rfl | rfl | rfl <;> rfl) rfl rfl ?_; clear S a H; intro w a H S
  refine l_store S H rfl rfl rfl (.there (Upd.skip ow4 (.there .here))) (by first | decide | simp [Value.cells]) (fun w u hc hz => st1 sz4 rfl hc hz) rfl rfl ?_; clear S a H; intro w a H S
  refine l_store S H rfl rfl rfl (.there (Upd.skip ow4 .here)) (by first | decide | simp [Value.cells]) (fun w u hc hz => st1 sz4 rfl hc hz) rfl rfl ?_; clear S a H; intro w a H S
  refine l_nil ?_
  refine e_then ?_
  refine wp_ret ?_
  refine e_then_ret ?_
  exact r_door (v := .tuple #[.agg #[.int .i64 0, .string ⟨#[]⟩, .int .i64 0, .int .u64 0, .float .f64 0, .bool false], .bool false, .bool false]) S (idle7 _ _ _) (invokes Tryz.func7 rfl rfl) (res_c3 rfl rfl rfl rfl (lva (cs := [.int .i64 0, .string ⟨#[]⟩, .int .i64 0, .int .u64 0, .float .f64 0, .bool false]) ag25 sz25 rfl H (List.mem_cons_of_mem _ (List.mem_append_right _ (List.mem_cons_of_mem _ (List.mem_cons_of_mem _ List.mem_cons_self))))) (lv ag4 H (List.mem_cons_of_mem _ (List.mem_append_right _ (List.mem_cons_of_mem _ List.mem_cons_self))) rfl) (lv ag4 H (List.mem_cons_of_mem _ (List.mem_append_right _ List.mem_cons_self)) rfl)) ⟨rfl, H.tail.bring.tail.tail.tail⟩
theorem new6_ (wb w0 : World) (B : Nat) (L0 : List (Nat × Obj)) (k : Int) (hk : 6 ≤ k ∧ k ≤ 255)  (as_ ar ao ai : Addr) (hE : vr.EW B wb as_ ar ao ai) (A : Option Addr) (c : Nat) (s : ByteArray) (hs : s.size ≤ 1000000) (hsb : ∀ w, HH B wb w L0 → SB w A c (ints s)) (H : HH B wb w0 L0) : Calls Tryz.prog 8 #[.int .u8 k, .slice A (ints s).length c] w0 (vk.NvP B wb L0 ao false false vk.ZL) := by
 refine c_enter (args := [.int .u8 k, .slice A (ints s).length c]) (k := 9) Tryz.func8 rfl rfl rfl (fun a S => ?_)
 refine wp_seq ?_
 refine c_region ?_
 refine l_alloc (cs := #[.int .u64 0, .slice none 0 0, .int .u8 0]) S H rfl (fun w => al zv33) rfl rfl rfl ?_; clear S a H; intro g1 w a H S
 refine l_mv 1 S rfl ?_; clear S a; intro a S
 refine l_nil ?_
 refine e_then ?_
 refine wp_seq ?_
 refine c_region ?_
 refine l_mv 2 S rfl ?_; clear S a; intro a S
 have hcon := vk.nv6_ wb _ B _ k hk as_ ar ao ai hE A c s hs (fun w H => hsb w H.tail) H
 refine l_call S rfl rfl Tryz.func15 rfl rfl hcon rfl rfl rfl ?_
 rintro e w (⟨hok, hfar, rfl, hH⟩ | ⟨hok, e1, L2, rfl, hr, hH⟩)
 ·
  refine ⟨_, rfl, ?_⟩; clear S a; intro a S; clear H hcon; have H := hH; clear hH
  refine l_mv 2 S rfl ?_; clear S a; intro a S
  refine l_storeAll (vs := [.int .u64 0, .slice none 0 0, .int .u8 0]) S H rfl rfl rfl sz33 .here rfl (fun v hv => by simp only [List.mem_cons, List.not_mem_nil, or_false] at hv; rcases hv with rfl | rfl | rfl <;> rfl) rfl rfl ?_; clear S a H; intro w a H S
  refine l_mv 1 S rfl ?_; clear S a; intro a S
  refine l_nil ?_
  refine e_then ?_
  refine wp_ret ?_
  exact r_retct S rfl rfl rfl (lva (cs := [.int .u64 0, .slice none 0 0, .int .u8 0]) ag33 sz33 rfl H List.mem_cons_self) (.inl ⟨hok, hfar, rfl, H.tail⟩)
 ·
  refine ⟨_, rfl, ?_⟩; clear S a; intro a S; clear H hcon; have H := hH; clear hH
  refine l_mv 2 S rfl ?_; clear S a; intro a S
  refine l_storeAll (vs := [.int .u64 0, .slice none 0 0, .int .u8 0]) S H rfl rfl rfl sz33 (Rep.skip L2 .here) rfl (fun v hv => by simp only [List.mem_cons, List.not_mem_nil, or_false] at hv; rcases hv with rfl | rfl | rfl <;> rfl) rfl rfl ?_; clear S a H; intro w a H S
  refine l_mv 1 S rfl ?_; clear S a; intro a S
  refine l_nil ?_
  refine e_then ?_
  refine wp_ret ?_
  exact r_retct S rfl rfl rfl (lva (cs := [.int .u64 0, .slice none 0 0, .int .u8 0]) ag33 sz33 rfl H (List.mem_append_right _ List.mem_cons_self)) (.inr ⟨hok, e1, L2, rfl, hr, H.sub ((List.sublist_cons_self _ _).append_left _)⟩)
theorem im6_ (wb w0 : World) (B : Nat) (L0 : List (Nat × Obj)) (k : Int) (hk : 6 ≤ k ∧ k ≤ 255)  (as_ ar ao ai : Addr) (hE : vr.EW B wb as_ ar ao ai) (s : ByteArray) (hs : s.size ≤ 1000000) (H : HH B wb w0 L0) : Calls Tryz.prog 4 #[.int .i64 k, .string s] w0 fun e w' => e = .returned (ansP false false {}) ∧ HH B wb w' L0 := by
 refine c_enter_d (args := [.int .i64 k, .string s]) (k := 23) Tryz.func4 rfl rfl rfl (fun a S => ?_)
 refine wp_seq ?_
 refine c_region ?_
 refine l_alloc (cs := #[.int .i64 0, .string ⟨#[]⟩, .int .i64 0, .int .u64 0, .float .f64 0, .bool false]) S H rfl (fun w => al zv25) rfl rfl rfl ?_; clear S a H; intro g1 w a H S
 refine l_alloc (cs := #[.bool false]) S H rfl (fun w => al zv4) rfl rfl rfl ?_; clear S a H; intro g2 w a H S
 refine l_alloc (cs := #[.bool false]) S H rfl (fun w => al zv4) rfl rfl rfl ?_; clear S a H; intro g3 w a H S
 refine l_nil ?_
 refine e_then ?_
 refine wp_seq ?_
 refine c_region ?_
 refine l_pure S (p_func rfl rfl) rfl rfl rfl ?_; clear S a; intro a S
 refine l_defer (xs := []) (us := []) (vs := []) S rfl rfl rfl rfl rfl ?_; clear S a; intro a S
 refine l_nil ?_
 refine e_then ?_
 refine wp_seq ?_
 refine c_region ?_
 refine l_mv 1 S rfl ?_; clear S a; intro a S
 refine l_pure S (p_conv rfl (fun w => cv_int (Tryz.underlying3) (Tryz.underlying31) (r := k) (IntWalk.u8_in _ (by omega)))) rfl rfl rfl ?_; clear S a; intro a S
 refine l_mv 1 S rfl ?_; clear S a; intro a S
 refine l_bytesOwn (s := s) S H rfl rfl Tryz.underlying9 Tryz.underlying30 Tryz.underlying5 rfl rfl rfl ?_; clear S a H; intro v_ ow4 w a how4 H S
 rw [← ints_len s] at how4
 obtain ⟨Aow4, cow4, rfl, _⟩ := how4.slice
 have hcon := new6_ wb _ B _ k hk as_ ar ao ai hE Aow4 cow4 s hs (fun w H => SB.own how4 H) H
 refine l_call S rfl rfl Tryz.func8 rfl rfl hcon rfl rfl rfl ?_
 rintro e w (⟨hok, hfar, rfl, hH⟩ | ⟨hok, e1, L2, rfl, hr, hH⟩)
 ·
  exact absurd hok (by decide)
 ·
  obtain ⟨t1, p1, rfl⟩ := hr.iface
  refine ⟨_, rfl, ?_⟩; clear S a; intro a S; clear H hcon; have H := hH; clear hH
  refine l_mv 3 S rfl ?_; clear S a; intro a S
  refine l_alloc (cs := #[.int .u64 0, .slice none 0 0, .int .u8 0]) S H rfl (fun w => al zv33) rfl rfl rfl ?_; clear S a H; intro g5 w a H S
  refine l_storeAll (vs := [.int .u64 0, .slice none 0 0, .int .u8 0]) S H rfl rfl rfl sz33 .here rfl (fun v hv => by simp only [List.mem_cons, List.not_mem_nil, or_false] at hv; rcases hv with rfl | rfl | rfl <;> rfl) rfl rfl ?_; clear S a H; intro w a H S
  refine l_mv 1 S rfl ?_; clear S a; intro a S
  refine l_nil ?_
  refine e_then ?_
  refine wp_seq ?_
  refine wp_seq ?_
  refine c_region ?_
  refine l_mv 1 S rfl ?_; clear S a; intro a S
  refine l_pure S (p_ifnilN mi35 rfl rfl) rfl rfl rfl ?_; clear S a; intro a S
  refine l_nil ?_
  refine e_then ?_
  refine c_cond (b := true) S rfl (fun _ => ?_) (fun h => by cases h)
  refine wp_seq ?_
  refine c_region ?_
  refine l_pure S (p_bld (ps := []) rfl (bld25_)) rfl rfl rfl ?_; clear S a; intro a S
  refine l_mv 1 S rfl ?_; clear S a; intro a S
  have hcon := vr.out_ wb _ B _ as_ ar ao ai hE false _ _ hr H.mid
  refine l_call S rfl rfl Tryz.func9 rfl rfl (hcon) rfl rfl rfl ?_
  rintro e w ⟨rfl, hH⟩
  refine ⟨_, rfl, ?_⟩; clear S a; intro a S
  clear H hcon; have H := hH; clear hH
  refine l_storeAll (vs := [.int .i64 0, .string ⟨#[]⟩, .int .i64 0, .int .u64 0, .float .f64 0, .bool false]) S H rfl rfl rfl sz25 (.there (Rep.skip ow4 (.there (.there .here)))) rfl (fun v hv => by simp only [List.mem_cons, List.not_mem_nil, or_false] at hv; rcases hv with rfl | rfl | rfl | rfl | rfl | rfl <;> rfl) rfl rfl ?_; clear S a H; intro w a H S
  refine l_store S H rfl rfl rfl (.there (Upd.skip ow4 (.there .here))) (by first | decide | simp [Value.cells]) (fun w u hc hz => st1 sz4 rfl hc hz) rfl rfl ?_; clear S a H; intro w a H S
  refine l_store S H rfl rfl rfl (.there (Upd.skip ow4 .here)) (by first | decide | simp [Value.cells]) (fun w u hc hz => st1 sz4 rfl hc hz) rfl rfl ?_; clear S a H; intro w a H S
  refine l_nil ?_
  refine e_then ?_
  refine wp_ret ?_
  refine e_then_ret ?_
  exact r_door (v := .tuple #[.agg #[.int .i64 0, .string ⟨#[]⟩, .int .i64 0, .int .u64 0, .float .f64 0, .bool false], .bool false, .bool false]) S (idle7 _ _ _) (invokes Tryz.func7 rfl rfl) (res_c3 rfl rfl rfl rfl (lva (cs := [.int .i64 0, .string ⟨#[]⟩, .int .i64 0, .int .u64 0, .float .f64 0, .bool false]) ag25 sz25 rfl H (List.mem_cons_of_mem _ (List.mem_append_right _ (List.mem_cons_of_mem _ (List.mem_cons_of_mem _ List.mem_cons_self))))) (lv ag4 H (List.mem_cons_of_mem _ (List.mem_append_right _ (List.mem_cons_of_mem _ List.mem_cons_self))) rfl) (lv ag4 H (List.mem_cons_of_mem _ (List.mem_append_right _ List.mem_cons_self)) rfl)) ⟨rfl, H.tail.bring.tail.tail.tail⟩
end vi
end Go.Proofs.YtneoieigaakoaaaGreatDoor.pf
end
