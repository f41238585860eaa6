/- Options, made. -/
import Derived.Test.YtnmelglnkefjfaaDoorBw
namespace Go.Proofs.YtnmelglnkefjfaaDoor.bu
open Go.RowKit Go.Proofs.HHW Go.Proofs.YtnmelglnkefjfaaDoorW.PrintWords
set_option linter.unusedVariables false
set_option linter.unusedSimpArgs false
namespace op
theorem bldP : Tryd.prog.built 129 [(1, .int .i64 10000000)] = some #[.int .i64 0, .int .i64 10000000, .slice none 0 0] := by kernel_rfl
theorem bldO (p r : Nat) : Tryd.prog.built 74 [(0, .func (.func 42) #[.pointer (some ⟨p, 0, none⟩)] #[]), (1, .func (.func 43) #[.pointer (some ⟨p, 0, none⟩)] #[]), (2, .func (.func 44) #[.pointer (some ⟨r, 0, none⟩)] #[]), (3, .func (.func 45) #[] #[]), (4, .func (.func 47) #[] #[])] = some #[.func (.func 42) #[.pointer (some ⟨p, 0, none⟩)] #[], .func (.func 43) #[.pointer (some ⟨p, 0, none⟩)] #[], .func (.func 44) #[.pointer (some ⟨r, 0, none⟩)] #[], .func (.func 45) #[] #[], .func (.func 47) #[] #[], .bool false, .bool false] := by kernel_rfl
theorem zv132 : zvB Tryd.prog 132 = some (.agg #[.slice none 0 0]) := by kernel_rfl
theorem pool_ (wb w0 : World) (B : Nat) (L0 : dc.Bk) (H : HH B wb w0 L0) : Calls Tryd.prog 40 #[.int .i64 10000000] w0 fun e w' => ∃ g, e = .returned (.pointer (some ⟨g, 0, none⟩)) ∧ HH B wb w' L0 := by
  refine c_enter (args := [.int .i64 10000000]) (k := 5) Tryd.func40 rfl rfl rfl (fun a S => ?_)
  refine wp_seq ?_
  refine c_region ?_
  refine l_pure S (p_assign rfl) rfl rfl rfl ?_; clear S a; intro a S
  refine l_nil ?_
  refine e_then ?_
  refine wp_seq ?_
  refine c_region ?_
  refine l_pure S (p_move rfl) rfl rfl rfl ?_; clear S a; intro a S
  refine l_pure S (p_bld (ps := [(1, .tmp 3)]) rfl bldP) rfl rfl rfl ?_; clear S a; intro a S
  refine l_box (cs := #[.int .i64 0, .int .i64 10000000, .slice none 0 0]) S H rfl rfl (fun w => bx) rfl rfl rfl ?_; clear S a H; intro g w a H S
  refine l_pure S (p_assign rfl) rfl rfl rfl ?_; clear S a; intro a S
  refine l_nil ?_
  refine e_then ?_
  refine wp_ret ?_
  exact r_ret1 S rfl rfl ⟨g, rfl, H.tail⟩
theorem rpool_ (wb w0 : World) (B : Nat) (L0 : dc.Bk) (H : HH B wb w0 L0) : Calls Tryd.prog 41 #[] w0 fun e w' => ∃ g, e = .returned (.pointer (some ⟨g, 0, none⟩)) ∧ HH B wb w' L0 := by
  refine c_enter (args := []) (k := 2) Tryd.func41 rfl rfl rfl (fun a S => ?_)
  refine wp_seq ?_
  refine c_region ?_
  refine l_pure S (p_assign rfl) rfl rfl rfl ?_; clear S a; intro a S
  refine l_nil ?_
  refine e_then ?_
  refine wp_seq ?_
  refine c_region ?_
  refine l_alloc (cs := _) S H rfl (fun w => al zv132) rfl rfl rfl ?_; clear S a H; intro g w a H S
  refine l_pure S (p_assign rfl) rfl rfl rfl ?_; clear S a; intro a S
  refine l_nil ?_
  refine e_then ?_
  refine wp_ret ?_
  exact r_ret1 S rfl rfl ⟨g, rfl, H.tail⟩
theorem opts_ (wb w0 : World) (B : Nat) (L0 : dc.Bk) (H : HH B wb w0 L0) : Calls Tryd.prog 30 #[] w0 fun e w' => ∃ go p r, e = .returned (.pointer (some ⟨go, 0, none⟩)) ∧ HH B wb w' ((go, .cells #[.func (.func 42) #[.pointer (some ⟨p, 0, none⟩)] #[], .func (.func 43) #[.pointer (some ⟨p, 0, none⟩)] #[], .func (.func 44) #[.pointer (some ⟨r, 0, none⟩)] #[], .func (.func 45) #[] #[], .func (.func 47) #[] #[], .bool false, .bool false] 74 (0, 0)) :: L0) := by
  refine c_enter (args := []) (k := 13) Tryd.func30 rfl rfl rfl (fun a S => ?_)
  refine wp_seq ?_
  refine c_region ?_
  refine l_pure S (p_assign rfl) rfl rfl rfl ?_; clear S a; intro a S
  refine l_nil ?_
  refine e_then ?_
  refine wp_seq ?_
  refine c_region ?_
  refine l_call S rfl rfl Tryd.func40 rfl rfl (pool_ wb _ _ L0 H) rfl rfl rfl ?_
  rintro e w ⟨p, rfl, hH⟩
  refine ⟨_, rfl, ?_⟩; clear S a; intro a S
  clear H; have H := hH; clear hH
  refine l_pure S (p_assign rfl) rfl rfl rfl ?_; clear S a; intro a S
  refine l_nil ?_
  refine e_then ?_
  refine wp_seq ?_
  refine c_region ?_
  refine l_call S rfl rfl Tryd.func41 rfl rfl (rpool_ wb _ _ L0 H) rfl rfl rfl ?_
  rintro e w ⟨r, rfl, hH⟩
  refine ⟨_, rfl, ?_⟩; clear S a; intro a S
  clear H; have H := hH; clear hH
  refine l_pure S (p_assign rfl) rfl rfl rfl ?_; clear S a; intro a S
  refine l_nil ?_
  refine e_then ?_
  refine wp_seq ?_
  refine c_region ?_
  refine l_pure S (p_move rfl) rfl rfl rfl ?_; clear S a; intro a S
  refine l_pure S (p_func rfl rfl) rfl rfl rfl ?_; clear S a; intro a S
  refine l_pure S (p_move rfl) rfl rfl rfl ?_; clear S a; intro a S
  refine l_pure S (p_func rfl rfl) rfl rfl rfl ?_; clear S a; intro a S
  refine l_pure S (p_move rfl) rfl rfl rfl ?_; clear S a; intro a S
  refine l_pure S (p_func rfl rfl) rfl rfl rfl ?_; clear S a; intro a S
  refine l_pure S (p_bld (ps := [(0, .tmp 6), (1, .tmp 8), (2, .tmp 10), (3, .func 45), (4, .func 47)]) rfl (bldO p r)) rfl rfl rfl ?_; clear S a; intro a S
  refine l_box (cs := #[.func (.func 42) #[.pointer (some ⟨p, 0, none⟩)] #[], .func (.func 43) #[.pointer (some ⟨p, 0, none⟩)] #[], .func (.func 44) #[.pointer (some ⟨r, 0, none⟩)] #[], .func (.func 45) #[] #[], .func (.func 47) #[] #[], .bool false, .bool false]) S H rfl rfl (fun w => bx) rfl rfl rfl ?_; clear S a H; intro go w a H S
  refine l_pure S (p_assign rfl) rfl rfl rfl ?_; clear S a; intro a S
  refine l_nil ?_
  refine e_then ?_
  refine wp_ret ?_
  exact r_ret1 S rfl rfl ⟨go, p, r, rfl, H⟩
end op
end Go.Proofs.YtnmelglnkefjfaaDoor.bu
