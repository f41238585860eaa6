/- bufio's reader: made. -/
import Derived.Test.YtnmelglnkefjfaaDoorBu
import Derived.Test.YtnmelglnkefjfaaDoorDf
namespace Go.Proofs.YtnmelglnkefjfaaDoor.bu
open Go.RowKit Go.Proofs.HHW Go.Proofs.YtnmelglnkefjfaaDoorW.PrintWords
set_option linter.unusedVariables false
set_option linter.unusedSimpArgs false
namespace mk
theorem bldB (gb gr : Nat) : Tryd.prog.built 153 [(0, .slice (some ⟨gb, 0, none⟩) 4096 4096), (1, .iface 42 (.pointer (some ⟨gr, 0, none⟩))), (5, .int .i64 (-1)), (6, .int .i64 (-1))] = some #[.slice (some ⟨gb, 0, none⟩) 4096 4096, .iface 42 (.pointer (some ⟨gr, 0, none⟩)), .int .i64 0, .int .i64 0, .nilIface, .int .i64 (-1), .int .i64 (-1)] := by kernel_rfl
theorem taR (w : World) (v : Value) : (Instr.typeAssert (.iface 42 v) 52 102 true).run Tryd.prog w = .ok (.tuple #[.pointer none, .bool false]) w := by kernel_rfl
theorem mkB (w : World) (g : Nat) : (Instr.makeInterface 102 (.pointer (some ⟨g, 0, none⟩))).run Tryd.prog w = .ok (.iface 102 (.pointer (some ⟨g, 0, none⟩))) w := by kernel_rfl
theorem sz153 : szB Tryd.prog 153 = some 7 := by kernel_rfl
theorem zv153 : zvB Tryd.prog 153 = some (.agg #[.slice none 0 0, .nilIface, .int .i64 0, .int .i64 0, .nilIface, .int .i64 0, .int .i64 0]) := by kernel_rfl
theorem in5 : (Tryd.prog.info? 5).map (fun i => (i.zero, i.size, i.bytes)) = some (some (.int .u8 0), 1, 1) := by kernel_rfl
theorem reset_ (wb w0 : World) (B : Nat) (L0 : dc.Bk) (g gb gr : Nat) (c0 : Array Value) (H : HH B wb w0 ((g, .cells c0 153 (0, 0)) :: L0)) (hc0 : c0.size = 7) : Calls Tryd.prog 64 #[.pointer (some ⟨g, 0, none⟩), .slice (some ⟨gb, 0, none⟩) 4096 4096, .iface 42 (.pointer (some ⟨gr, 0, none⟩))] w0 fun e w' => e = .returned (.tuple #[]) ∧ HH B wb w' ((g, .cells #[.slice (some ⟨gb, 0, none⟩) 4096 4096, .iface 42 (.pointer (some ⟨gr, 0, none⟩)), .int .i64 0, .int .i64 0, .nilIface, .int .i64 (-1), .int .i64 (-1)] 153 (0, 0)) :: L0) := by
  refine c_enter (args := [.pointer (some ⟨g, 0, none⟩), .slice (some ⟨gb, 0, none⟩) 4096 4096, .iface 42 (.pointer (some ⟨gr, 0, none⟩))]) (k := 8) Tryd.func64 rfl rfl rfl (fun a S => ?_)
  refine c_region ?_
  refine l_pure S (p_move rfl) rfl rfl rfl ?_; clear S a; intro a S
  refine l_pure S (p_move rfl) rfl rfl rfl ?_; clear S a; intro a S
  refine l_pure S (p_move rfl) rfl rfl rfl ?_; clear S a; intro a S
  refine l_pure S (p_bld (ps := [(0, .tmp 7), (1, .tmp 8), (5, .const (.int .i64 (-1))), (6, .const (.int .i64 (-1)))]) rfl (bldB gb gr)) rfl rfl rfl ?_; clear S a; intro a S
  refine l_pure S (p_nilCheck rfl) rfl rfl rfl ?_; clear S a; intro a S
  refine l_storeAll (vs := [.slice (some ⟨gb, 0, none⟩) 4096 4096, .iface 42 (.pointer (some ⟨gr, 0, none⟩)), .int .i64 0, .int .i64 0, .nilIface, .int .i64 (-1), .int .i64 (-1)]) S H rfl rfl rfl sz153 .here hc0 (fun v hv => by simp only [List.mem_cons, List.not_mem_nil, or_false] at hv; rcases hv with rfl | rfl | rfl | rfl | rfl | rfl | rfl <;> rfl) rfl rfl ?_; clear S a H; intro w a H S
  refine l_nil ?_
  exact r_end0 S rfl ⟨rfl, H⟩
theorem newSize_ (wb w0 : World) (B : Nat) (L0 : dc.Bk) (gr : Nat) (H : HH B wb w0 L0) : Calls Tryd.prog 55 #[.iface 42 (.pointer (some ⟨gr, 0, none⟩)), .int .i64 4096] w0 fun e w' => ∃ g gb cs, e = .returned (.pointer (some ⟨g, 0, none⟩)) ∧ cs.size = 4096 ∧ HH B wb w' ((g, .cells #[.slice (some ⟨gb, 0, none⟩) 4096 4096, .iface 42 (.pointer (some ⟨gr, 0, none⟩)), .int .i64 0, .int .i64 0, .nilIface, .int .i64 (-1), .int .i64 (-1)] 153 (0, 0)) :: (gb, .cells cs 5 (0, 0)) :: L0) := by
  refine c_enter (args := [.iface 42 (.pointer (some ⟨gr, 0, none⟩)), .int .i64 4096]) (k := 30) Tryd.func55 rfl rfl rfl (fun a S => ?_)
  refine wp_seq ?_
  refine c_region ?_
  refine l_pure S (p_assign rfl) rfl rfl rfl ?_; clear S a; intro a S
  refine l_nil ?_
  refine e_then ?_
  refine wp_seq ?_
  refine c_region ?_
  refine l_pure S (p_move rfl) rfl rfl rfl ?_; clear S a; intro a S
  refine l_pure S (p_ta rfl (fun w => taR w _)) rfl rfl rfl ?_; clear S a; intro a S
  refine l_pure S (p_move rfl) rfl rfl rfl ?_; clear S a; intro a S
  refine l_pure S (p_extract rfl rfl) rfl rfl rfl ?_; clear S a; intro a S
  refine l_pure S (p_extract rfl rfl) rfl rfl rfl ?_; clear S a; intro a S
  refine l_pure S (p_assign rfl) rfl rfl rfl ?_; clear S a; intro a S
  refine l_pure S (p_assign rfl) rfl rfl rfl ?_; clear S a; intro a S
  refine l_nil ?_
  refine e_then ?_
  refine wp_seq ?_
  refine wp_seq ?_
  refine c_region ?_
  refine l_pure S (p_move rfl) rfl rfl rfl ?_; clear S a; intro a S
  refine l_pure S (p_move rfl) rfl rfl rfl ?_; clear S a; intro a S
  refine l_off S rfl rfl rfl rfl rfl rfl rfl ?_; clear S a; intro a S
  refine l_off S rfl rfl rfl rfl rfl rfl rfl ?_; clear S a; intro a S
  refine l_off S rfl rfl rfl rfl rfl rfl rfl ?_; clear S a; intro a S
  refine l_off S rfl rfl rfl rfl rfl rfl rfl ?_; clear S a; intro a S
  refine l_off S rfl rfl rfl rfl rfl rfl rfl ?_; clear S a; intro a S
  refine l_off S rfl rfl rfl rfl rfl rfl rfl ?_; clear S a; intro a S
  refine l_off S rfl rfl rfl rfl rfl rfl rfl ?_; clear S a; intro a S
  refine l_pure S (p_pick_f rfl rfl rfl) rfl rfl rfl ?_; clear S a; intro a S
  refine l_nil ?_
  refine e_then ?_
  refine c_cond (b := false) S rfl (fun h => by cases h) (fun _ => ?_)
  refine wp_skip ?_
  refine e_then ?_
  refine wp_seq ?_
  refine c_region ?_
  refine l_alloc (cs := _) S H rfl (fun w => al zv153) rfl rfl rfl ?_; clear S a H; intro g w a H S
  refine l_pure S (p_assign rfl) rfl rfl rfl ?_; clear S a; intro a S
  refine l_nil ?_
  refine e_then ?_
  refine wp_seq ?_
  refine c_region ?_
  refine l_pure S (p_move rfl) rfl rfl rfl ?_; clear S a; intro a S
  refine l_pure S (p_move rfl) rfl rfl rfl ?_; clear S a; intro a S
  refine l_pure S (p_maxN (x := 4096) (y := 16) rfl rfl) rfl rfl rfl ?_; clear S a; intro a S
  refine l_make (l := 4096) (c := 4096) S H rfl rfl rfl Tryd.underlying55 in5 (by omega) (by omega) (by omega) rfl rfl rfl ?_; clear S a H; intro gb cs w a hcs H S
  refine l_pure S (p_move rfl) rfl rfl rfl ?_; clear S a; intro a S
  have hcon := reset_ wb _ _ _ g gb gr _ H.pull1 rfl
  refine l_call S rfl rfl Tryd.func64 rfl rfl (hcon) rfl rfl rfl ?_
  rintro e w ⟨rfl, hH⟩
  refine ⟨_, rfl, ?_⟩; clear S a; intro a S
  clear H hcon; have H := hH; clear hH
  refine l_nil ?_
  refine e_then ?_
  refine wp_seq ?_
  refine c_region ?_
  refine l_pure S (p_move rfl) rfl rfl rfl ?_; clear S a; intro a S
  refine l_pure S (p_assign rfl) rfl rfl rfl ?_; clear S a; intro a S
  refine l_nil ?_
  refine e_then ?_
  refine wp_ret ?_
  exact r_ret1 S rfl rfl ⟨g, gb, cs, rfl, hcs, H⟩
theorem newReader_ (wb w0 : World) (B : Nat) (L0 : dc.Bk) (gr : Nat) (H : HH B wb w0 L0) : Calls Tryd.prog 46 #[.iface 42 (.pointer (some ⟨gr, 0, none⟩))] w0 fun e w' => ∃ g gb cs, e = .returned (.pointer (some ⟨g, 0, none⟩)) ∧ cs.size = 4096 ∧ HH B wb w' ((g, .cells #[.slice (some ⟨gb, 0, none⟩) 4096 4096, .iface 42 (.pointer (some ⟨gr, 0, none⟩)), .int .i64 0, .int .i64 0, .nilIface, .int .i64 (-1), .int .i64 (-1)] 153 (0, 0)) :: (gb, .cells cs 5 (0, 0)) :: L0) := by
  refine c_enter (args := [.iface 42 (.pointer (some ⟨gr, 0, none⟩))]) (k := 4) Tryd.func46 rfl rfl rfl (fun a S => ?_)
  refine wp_seq ?_
  refine c_region ?_
  refine l_pure S (p_assign rfl) rfl rfl rfl ?_; clear S a; intro a S
  refine l_nil ?_
  refine e_then ?_
  refine wp_seq ?_
  refine c_region ?_
  refine l_pure S (p_move rfl) rfl rfl rfl ?_; clear S a; intro a S
  refine l_call S rfl rfl Tryd.func55 rfl rfl (newSize_ wb _ _ L0 gr H) rfl rfl rfl ?_
  rintro e w ⟨g, gb, cs, rfl, hcs, hH⟩
  refine ⟨_, rfl, ?_⟩; clear S a; intro a S
  refine l_pure S (p_assign rfl) rfl rfl rfl ?_; clear S a; intro a S
  refine l_nil ?_
  refine e_then ?_
  refine wp_ret ?_
  exact r_ret1 S rfl rfl ⟨g, gb, cs, rfl, hcs, hH⟩
theorem opts1_ (wb w0 : World) (B : Nat) (L0 : dc.Bk) (gr : Nat) (H : HH B wb w0 L0) : Calls Tryd.prog 45 #[.iface 42 (.pointer (some ⟨gr, 0, none⟩))] w0 fun e w' => ∃ g gb cs, e = .returned (.iface 102 (.pointer (some ⟨g, 0, none⟩))) ∧ cs.size = 4096 ∧ HH B wb w' ((g, .cells #[.slice (some ⟨gb, 0, none⟩) 4096 4096, .iface 42 (.pointer (some ⟨gr, 0, none⟩)), .int .i64 0, .int .i64 0, .nilIface, .int .i64 (-1), .int .i64 (-1)] 153 (0, 0)) :: (gb, .cells cs 5 (0, 0)) :: L0) := by
  refine c_enter (args := [.iface 42 (.pointer (some ⟨gr, 0, none⟩))]) (k := 5) Tryd.func45 rfl rfl rfl (fun a S => ?_)
  refine wp_seq ?_
  refine c_region ?_
  refine l_pure S (p_assign rfl) rfl rfl rfl ?_; clear S a; intro a S
  refine l_nil ?_
  refine e_then ?_
  refine wp_seq ?_
  refine c_region ?_
  refine l_pure S (p_move rfl) rfl rfl rfl ?_; clear S a; intro a S
  refine l_call S rfl rfl Tryd.func46 rfl rfl (newReader_ wb _ _ L0 gr H) rfl rfl rfl ?_
  rintro e w ⟨g, gb, cs, rfl, hcs, hH⟩
  refine ⟨_, rfl, ?_⟩; clear S a; intro a S
  refine l_pure S (p_iface rfl (fun w => mkB w _)) rfl rfl rfl ?_; clear S a; intro a S
  refine l_pure S (p_assign rfl) rfl rfl rfl ?_; clear S a; intro a S
  refine l_nil ?_
  refine e_then ?_
  refine wp_ret ?_
  exact r_ret1 S rfl rfl ⟨g, gb, cs, rfl, hcs, hH⟩
end mk
end Go.Proofs.YtnmelglnkefjfaaDoor.bu
