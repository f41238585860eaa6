/- the wire of a message -/
import Derived.Test.YtfbfmcjjohiikaaGreatDoorQ05
import Derived.Test.YtfbfmcjjohiikaaGreatDoorQ01
set_option linter.unusedVariables false
set_option linter.unusedSimpArgs false
section
namespace Go.Proofs.YtfbfmcjjohiikaaGreatDoor.mw
open Go.Proofs.YtfbfmcjjohiikaaGreatDoor.fx
open Go.RowKit Go.Proofs.HHW Go.Proofs.YtfbfmcjjohiikaaGreatDoorW.PrintWords
namespace mr
theorem bld56_0_1 (x0_0A : Option Addr) (x0_0n x0_0c : Nat) (x1_0 : Bool) : Tryz.prog.built 56 [(0, (.slice x0_0A x0_0n x0_0c)), (1, (.bool x1_0))] = some #[.slice x0_0A x0_0n x0_0c, .bool x1_0] := by kernel_rfl
theorem bld58_0_1 (x0_0 : ByteArray) (x1_0 : Bool) : Tryz.prog.built 58 [(0, (.string x0_0)), (1, (.bool x1_0))] = some #[.string x0_0, .bool x1_0] := by kernel_rfl
theorem bld60_0 (x0_0 : ByteArray) : Tryz.prog.built 60 [(0, (.string x0_0))] = some #[.string x0_0] := by kernel_rfl
theorem bld61_0 (x0_0 : ByteArray) : Tryz.prog.built 61 [(0, (.string x0_0))] = some #[.string x0_0] := by kernel_rfl
theorem bld63_0 (x0_0 : Int) : Tryz.prog.built 63 [(0, (.int .i64 x0_0))] = some #[.int .i64 x0_0] := by kernel_rfl
theorem bld65_  : Tryz.prog.built 65 [] = some #[] := by kernel_rfl
theorem bld67_0 (x0_0 : Nat) : Tryz.prog.built 67 [(0, (.float .f64 x0_0))] = some #[.float .f64 x0_0] := by kernel_rfl
theorem bld69_0 (x0_0 : Bool) : Tryz.prog.built 69 [(0, (.bool x0_0))] = some #[.bool x0_0] := by kernel_rfl
theorem bld71_0 (x0_0A : Option Addr) (x0_0n x0_0c : Nat) : Tryz.prog.built 71 [(0, (.slice x0_0A x0_0n x0_0c))] = some #[.slice x0_0A x0_0n x0_0c] := by kernel_rfl
theorem bld76_0 (x0_0A : Option Addr) (x0_0n x0_0c : Nat) : Tryz.prog.built 76 [(0, (.slice x0_0A x0_0n x0_0c))] = some #[.slice x0_0A x0_0n x0_0c] := by kernel_rfl
theorem bld77_0 (x0_0 : ByteArray) : Tryz.prog.built 77 [(0, (.string x0_0))] = some #[.string x0_0] := by kernel_rfl
theorem bld78_  : Tryz.prog.built 78 [] = some #[] := by kernel_rfl
theorem bld111_0_1 (x0_0 : Int) (x1_0 : Bool) : Tryz.prog.built 111 [(0, (.int .i64 x0_0)), (1, (.bool x1_0))] = some #[.int .i64 x0_0, .bool x1_0] := by kernel_rfl
theorem bld113_0_1 (x0_0 : Int) (x1_0 : Bool) : Tryz.prog.built 113 [(0, (.int .i64 x0_0)), (1, (.bool x1_0))] = some #[.int .i64 x0_0, .bool x1_0] := by kernel_rfl
theorem bld115_0_1 (x0_0 : Int) (x1_0 : Bool) : Tryz.prog.built 115 [(0, (.int .i64 x0_0)), (1, (.bool x1_0))] = some #[.int .i64 x0_0, .bool x1_0] := by kernel_rfl
theorem bld117_0 (x0_0 : Int) : Tryz.prog.built 117 [(0, (.int .i64 x0_0))] = some #[.int .i64 x0_0] := by kernel_rfl
theorem bld119_0 (x0_0 : Int) : Tryz.prog.built 119 [(0, (.int .i64 x0_0))] = some #[.int .i64 x0_0] := by kernel_rfl
theorem me56 (w : World) (rv : Value) : (method (Tryz.prog.types.size + Made.depth) 56 rv "MarshalRESP").run Tryz.prog w = .ok (104, rv) w := by kernel_rfl
theorem nl56 (w : World) (rv : Value) : (nilAhead (Tryz.prog.types.size + Made.depth) 56 rv "MarshalRESP").run Tryz.prog w = .ok (some false) w := by kernel_rfl
theorem me58 (w : World) (rv : Value) : (method (Tryz.prog.types.size + Made.depth) 58 rv "MarshalRESP").run Tryz.prog w = .ok (108, rv) w := by kernel_rfl
theorem nl58 (w : World) (rv : Value) : (nilAhead (Tryz.prog.types.size + Made.depth) 58 rv "MarshalRESP").run Tryz.prog w = .ok (some false) w := by kernel_rfl
theorem me60 (w : World) (rv : Value) : (method (Tryz.prog.types.size + Made.depth) 60 rv "MarshalRESP").run Tryz.prog w = .ok (109, rv) w := by kernel_rfl
theorem nl60 (w : World) (rv : Value) : (nilAhead (Tryz.prog.types.size + Made.depth) 60 rv "MarshalRESP").run Tryz.prog w = .ok (some false) w := by kernel_rfl
theorem me61 (w : World) (rv : Value) : (method (Tryz.prog.types.size + Made.depth) 61 rv "MarshalRESP").run Tryz.prog w = .ok (111, rv) w := by kernel_rfl
theorem nl61 (w : World) (rv : Value) : (nilAhead (Tryz.prog.types.size + Made.depth) 61 rv "MarshalRESP").run Tryz.prog w = .ok (some false) w := by kernel_rfl
theorem me63 (w : World) (rv : Value) : (method (Tryz.prog.types.size + Made.depth) 63 rv "MarshalRESP").run Tryz.prog w = .ok (112, rv) w := by kernel_rfl
theorem nl63 (w : World) (rv : Value) : (nilAhead (Tryz.prog.types.size + Made.depth) 63 rv "MarshalRESP").run Tryz.prog w = .ok (some false) w := by kernel_rfl
theorem me65 (w : World) (rv : Value) : (method (Tryz.prog.types.size + Made.depth) 65 rv "MarshalRESP").run Tryz.prog w = .ok (113, rv) w := by kernel_rfl
theorem nl65 (w : World) (rv : Value) : (nilAhead (Tryz.prog.types.size + Made.depth) 65 rv "MarshalRESP").run Tryz.prog w = .ok (some false) w := by kernel_rfl
theorem me67 (w : World) (rv : Value) : (method (Tryz.prog.types.size + Made.depth) 67 rv "MarshalRESP").run Tryz.prog w = .ok (115, rv) w := by kernel_rfl
theorem nl67 (w : World) (rv : Value) : (nilAhead (Tryz.prog.types.size + Made.depth) 67 rv "MarshalRESP").run Tryz.prog w = .ok (some false) w := by kernel_rfl
theorem me69 (w : World) (rv : Value) : (method (Tryz.prog.types.size + Made.depth) 69 rv "MarshalRESP").run Tryz.prog w = .ok (118, rv) w := by kernel_rfl
theorem nl69 (w : World) (rv : Value) : (nilAhead (Tryz.prog.types.size + Made.depth) 69 rv "MarshalRESP").run Tryz.prog w = .ok (some false) w := by kernel_rfl
theorem me71 (w : World) (rv : Value) : (method (Tryz.prog.types.size + Made.depth) 71 rv "MarshalRESP").run Tryz.prog w = .ok (122, rv) w := by kernel_rfl
theorem nl71 (w : World) (rv : Value) : (nilAhead (Tryz.prog.types.size + Made.depth) 71 rv "MarshalRESP").run Tryz.prog w = .ok (some false) w := by kernel_rfl
theorem me73 (w : World) (rv : Value) : (method (Tryz.prog.types.size + Made.depth) 73 rv "MarshalRESP").run Tryz.prog w = .ok (123, rv) w := by kernel_rfl
theorem nl73 (w : World) (rv : Value) : (nilAhead (Tryz.prog.types.size + Made.depth) 73 rv "MarshalRESP").run Tryz.prog w = .ok (some false) w := by kernel_rfl
theorem me75 (w : World) (rv : Value) : (method (Tryz.prog.types.size + Made.depth) 75 rv "MarshalRESP").run Tryz.prog w = .ok (125, rv) w := by kernel_rfl
theorem nl75 (w : World) (rv : Value) : (nilAhead (Tryz.prog.types.size + Made.depth) 75 rv "MarshalRESP").run Tryz.prog w = .ok (some false) w := by kernel_rfl
theorem me76 (w : World) (rv : Value) : (method (Tryz.prog.types.size + Made.depth) 76 rv "MarshalRESP").run Tryz.prog w = .ok (126, rv) w := by kernel_rfl
theorem nl76 (w : World) (rv : Value) : (nilAhead (Tryz.prog.types.size + Made.depth) 76 rv "MarshalRESP").run Tryz.prog w = .ok (some false) w := by kernel_rfl
theorem me77 (w : World) (rv : Value) : (method (Tryz.prog.types.size + Made.depth) 77 rv "MarshalRESP").run Tryz.prog w = .ok (127, rv) w := by kernel_rfl
theorem nl77 (w : World) (rv : Value) : (nilAhead (Tryz.prog.types.size + Made.depth) 77 rv "MarshalRESP").run Tryz.prog w = .ok (some false) w := by kernel_rfl
theorem me78 (w : World) (rv : Value) : (method (Tryz.prog.types.size + Made.depth) 78 rv "MarshalRESP").run Tryz.prog w = .ok (128, rv) w := by kernel_rfl
theorem nl78 (w : World) (rv : Value) : (nilAhead (Tryz.prog.types.size + Made.depth) 78 rv "MarshalRESP").run Tryz.prog w = .ok (some false) w := by kernel_rfl
theorem me111 (w : World) (rv : Value) : (method (Tryz.prog.types.size + Made.depth) 111 rv "MarshalRESP").run Tryz.prog w = .ok (142, rv) w := by kernel_rfl
theorem nl111 (w : World) (rv : Value) : (nilAhead (Tryz.prog.types.size + Made.depth) 111 rv "MarshalRESP").run Tryz.prog w = .ok (some false) w := by kernel_rfl
theorem me113 (w : World) (rv : Value) : (method (Tryz.prog.types.size + Made.depth) 113 rv "MarshalRESP").run Tryz.prog w = .ok (144, rv) w := by kernel_rfl
theorem nl113 (w : World) (rv : Value) : (nilAhead (Tryz.prog.types.size + Made.depth) 113 rv "MarshalRESP").run Tryz.prog w = .ok (some false) w := by kernel_rfl
theorem me115 (w : World) (rv : Value) : (method (Tryz.prog.types.size + Made.depth) 115 rv "MarshalRESP").run Tryz.prog w = .ok (145, rv) w := by kernel_rfl
theorem nl115 (w : World) (rv : Value) : (nilAhead (Tryz.prog.types.size + Made.depth) 115 rv "MarshalRESP").run Tryz.prog w = .ok (some false) w := by kernel_rfl
theorem me117 (w : World) (rv : Value) : (method (Tryz.prog.types.size + Made.depth) 117 rv "MarshalRESP").run Tryz.prog w = .ok (146, rv) w := by kernel_rfl
theorem nl117 (w : World) (rv : Value) : (nilAhead (Tryz.prog.types.size + Made.depth) 117 rv "MarshalRESP").run Tryz.prog w = .ok (some false) w := by kernel_rfl
theorem me119 (w : World) (rv : Value) : (method (Tryz.prog.types.size + Made.depth) 119 rv "MarshalRESP").run Tryz.prog w = .ok (147, rv) w := by kernel_rfl
theorem nl119 (w : World) (rv : Value) : (nilAhead (Tryz.prog.types.size + Made.depth) 119 rv "MarshalRESP").run Tryz.prog w = .ok (some false) w := by kernel_rfl
theorem mi111 (w : World) (x0 : Int) (x1 : Bool) : (Instr.makeInterface 111 (.agg #[.int .i64 x0, .bool x1])).run Tryz.prog w = .ok (.iface 111 (.agg #[.int .i64 x0, .bool x1])) w := by kernel_rfl
theorem mi117 (w : World) (x0 : Int) : (Instr.makeInterface 117 (.agg #[.int .i64 x0])).run Tryz.prog w = .ok (.iface 117 (.agg #[.int .i64 x0])) w := by kernel_rfl
theorem mi71 (w : World) (x0A : Option Addr) (x0n x0c : Nat) : (Instr.makeInterface 71 (.agg #[.slice x0A x0n x0c])).run Tryz.prog w = .ok (.iface 71 (.agg #[.slice x0A x0n x0c])) w := by kernel_rfl
theorem mi58 (w : World) (x0 : ByteArray) (x1 : Bool) : (Instr.makeInterface 58 (.agg #[.string x0, .bool x1])).run Tryz.prog w = .ok (.iface 58 (.agg #[.string x0, .bool x1])) w := by kernel_rfl
theorem mi56 (w : World) (x0A : Option Addr) (x0n x0c : Nat) (x1 : Bool) : (Instr.makeInterface 56 (.agg #[.slice x0A x0n x0c, .bool x1])).run Tryz.prog w = .ok (.iface 56 (.agg #[.slice x0A x0n x0c, .bool x1])) w := by kernel_rfl
theorem mi69 (w : World) (x0 : Bool) : (Instr.makeInterface 69 (.agg #[.bool x0])).run Tryz.prog w = .ok (.iface 69 (.agg #[.bool x0])) w := by kernel_rfl
theorem mi67 (w : World) (x0 : Nat) : (Instr.makeInterface 67 (.agg #[.float .f64 x0])).run Tryz.prog w = .ok (.iface 67 (.agg #[.float .f64 x0])) w := by kernel_rfl
theorem mi113 (w : World) (x0 : Int) (x1 : Bool) : (Instr.makeInterface 113 (.agg #[.int .i64 x0, .bool x1])).run Tryz.prog w = .ok (.iface 113 (.agg #[.int .i64 x0, .bool x1])) w := by kernel_rfl
theorem mi65 (w : World)  : (Instr.makeInterface 65 (.agg #[])).run Tryz.prog w = .ok (.iface 65 (.agg #[])) w := by kernel_rfl
theorem mi63 (w : World) (x0 : Int) : (Instr.makeInterface 63 (.agg #[.int .i64 x0])).run Tryz.prog w = .ok (.iface 63 (.agg #[.int .i64 x0])) w := by kernel_rfl
theorem mi119 (w : World) (x0 : Int) : (Instr.makeInterface 119 (.agg #[.int .i64 x0])).run Tryz.prog w = .ok (.iface 119 (.agg #[.int .i64 x0])) w := by kernel_rfl
theorem mi115 (w : World) (x0 : Int) (x1 : Bool) : (Instr.makeInterface 115 (.agg #[.int .i64 x0, .bool x1])).run Tryz.prog w = .ok (.iface 115 (.agg #[.int .i64 x0, .bool x1])) w := by kernel_rfl
theorem mi61 (w : World) (x0 : ByteArray) : (Instr.makeInterface 61 (.agg #[.string x0])).run Tryz.prog w = .ok (.iface 61 (.agg #[.string x0])) w := by kernel_rfl
theorem mi60 (w : World) (x0 : ByteArray) : (Instr.makeInterface 60 (.agg #[.string x0])).run Tryz.prog w = .ok (.iface 60 (.agg #[.string x0])) w := by kernel_rfl
theorem mi78 (w : World)  : (Instr.makeInterface 78 (.agg #[])).run Tryz.prog w = .ok (.iface 78 (.agg #[])) w := by kernel_rfl
theorem mi77 (w : World) (x0 : ByteArray) : (Instr.makeInterface 77 (.agg #[.string x0])).run Tryz.prog w = .ok (.iface 77 (.agg #[.string x0])) w := by kernel_rfl
theorem mi76 (w : World) (x0A : Option Addr) (x0n x0c : Nat) : (Instr.makeInterface 76 (.agg #[.slice x0A x0n x0c])).run Tryz.prog w = .ok (.iface 76 (.agg #[.slice x0A x0n x0c])) w := by kernel_rfl
theorem mi75 (w : World) (x0 : ByteArray) (x1 : ByteArray) : (Instr.makeInterface 75 (.agg #[.string x0, .string x1])).run Tryz.prog w = .ok (.iface 75 (.agg #[.string x0, .string x1])) w := by kernel_rfl
theorem mi73 (w : World) (x0A : Option Addr) (x0n x0c : Nat) (x1A : Option Addr) (x1n x1c : Nat) : (Instr.makeInterface 73 (.agg #[.slice x0A x0n x0c, .slice x1A x1n x1c])).run Tryz.prog w = .ok (.iface 73 (.agg #[.slice x0A x0n x0c, .slice x1A x1n x1c])) w := by kernel_rfl
def MOut (f : FuncId) (rv : Value) (ow : List (Nat × Obj)) (X : List Int) : Prop := ∀ (wb w0 : World) (B : Nat) (L0 : List (Nat × Obj)), (∀ p ∈ ow, p ∈ L0) → ∀ (go bp b : Nat) (l : List Int) (ls : List (Nat × Obj)), ms.Env go bp b l ls → Lib.TabBelow Tryz.prog B wb "internal/strconv.uint64pow10" .u64 Lib.pow10Tab → fz.PTab 3 B wb → HH B wb w0 (ls ++ L0) → l.length ≤ 10000000 → Calls Tryz.prog f #[rv, .iface 46 (.pointer (some ⟨b, 0, none⟩)), .pointer (some ⟨go, 0, none⟩)] w0 fun e w' => e = .returned .nilIface ∧ ∃ ls', ms.Env go bp b (l ++ X) ls' ∧ HH B wb w' (ls' ++ L0)
def MRun (iv : Value) (ow : List (Nat × Obj)) (X : List Int) : Prop := ∃ (t : TypeId) (f : FuncId) (fn : Func) (rv : Value), iv = .iface t rv ∧ (∀ w, (method (Tryz.prog.types.size + Made.depth) t rv "MarshalRESP").run Tryz.prog w = .ok (f, rv) w) ∧ (∀ w, (nilAhead (Tryz.prog.types.size + Made.depth) t rv "MarshalRESP").run Tryz.prog w = .ok (some false) w) ∧ Tryz.prog.funcs[f]? = some fn ∧ (fn.name == "runtime.NumGoroutine") = false ∧ fn.body.isSome = true ∧ MOut f rv ow X
def MOutE (f : FuncId) (rv : Value) (ow : List (Nat × Obj)) : Prop := ∀ (wb w0 : World) (B : Nat) (L0 : List (Nat × Obj)), (∀ p ∈ ow, p ∈ L0) → ∀ (go bp b : Nat) (l : List Int) (ls : List (Nat × Obj)), ms.Env go bp b l ls → Lib.TabBelow Tryz.prog B wb "internal/strconv.uint64pow10" .u64 Lib.pow10Tab → fz.PTab 3 B wb → HH B wb w0 (ls ++ L0) → l.length ≤ 10000000 → Calls Tryz.prog f #[rv, .iface 46 (.pointer (some ⟨b, 0, none⟩)), .pointer (some ⟨go, 0, none⟩)] w0 fun e w' => ∃ pe : Addr, e = .returned (.iface 104 (.agg #[.iface 221 (.pointer (some pe))])) ∧ HH B wb w' (ls ++ L0)
def MRunE (iv : Value) (ow : List (Nat × Obj)) : Prop := ∃ (t : TypeId) (f : FuncId) (fn : Func) (rv : Value), iv = .iface t rv ∧ (∀ w, (method (Tryz.prog.types.size + Made.depth) t rv "MarshalRESP").run Tryz.prog w = .ok (f, rv) w) ∧ (∀ w, (nilAhead (Tryz.prog.types.size + Made.depth) t rv "MarshalRESP").run Tryz.prog w = .ok (some false) w) ∧ Tryz.prog.funcs[f]? = some fn ∧ (fn.name == "runtime.NumGoroutine") = false ∧ fn.body.isSome = true ∧ MOutE f rv ow
theorem hd42_ (wb w0 : World) (B : Nat) (L0 : dc.Bk) (sv : ByteArray) (nv : Int) (dv : Nat) (Bo : Bool) (Fm : ByteArray) (Num : Int) (St : Bool) (hN : -9223372036854775808 ≤ nv ∧ nv ≤ 9223372036854775807) (hNum : -9223372036854775808 ≤ Num ∧ Num ≤ 9223372036854775807)  (H : HH B wb w0 L0) : Calls Tryz.prog 20 #[.agg #[.int .i64 42, .string sv, .int .i64 nv, .float .f64 dv, .bool Bo, .string Fm, .int .i64 Num, .bool St]] w0 fun e w' => ∃ (iv : Value) (ow : List (Nat × Obj)), e = .returned (.tuple #[iv, .bool true]) ∧ MRun iv ow (mw.mwire 42 sv nv dv Bo Fm Num St) ∧ HH B wb w' (ow ++ L0) := by
 refine c_enter (args := [.agg #[.int .i64 42, .string sv, .int .i64 nv, .float .f64 dv, .bool Bo, .string Fm, .int .i64 Num, .bool St]]) (k := 41) Tryz.func20 rfl rfl rfl (fun a S => ?_)
 refine wp_seq ?_
 refine c_region ?_
 refine l_box (cs := #[.int .i64 42, .string sv, .int .i64 nv, .float .f64 dv, .bool Bo, .string Fm, .int .i64 Num, .bool St]) S H rfl rfl (fun w => bx) rfl rfl rfl ?_; clear S a H; intro g1 w a H S
 refine l_mv 2 S rfl ?_; clear S a; intro a S
 refine l_nil ?_
 refine e_then ?_
 refine wp_seq ?_
 refine wp_seq ?_
 refine c_region ?_
 refine l_pure S (p_fieldAddr rfl (fun w => fa24_0 w _ _)) rfl rfl rfl ?_; clear S a; intro a S
 refine l_read S H (r_load rfl List.mem_cons_self rfl (fun w hc => ld1 ag3 hc)) rfl rfl rfl ?_; clear S a; intro a S
 refine l_nil ?_
 refine e_then ?_
 refine wp_block ?_
 refine wp_seq ?_
 refine c_region ?_
 refine l_pure S (p_eql rfl rfl) rfl rfl rfl ?_; clear S a; intro a S
 refine l_mv 1 S rfl ?_; clear S a; intro a S
 refine l_nil ?_
 refine e_then ?_
 refine c_cond (b := true) S rfl (fun _ => ?_) (fun h => by cases h)
 refine wp_seq ?_
 refine c_region ?_
 refine l_pure S (p_fieldAddr rfl (fun w => fa24_6 w _ _)) rfl rfl rfl ?_; clear S a; intro a S
 refine l_read S H (r_load rfl List.mem_cons_self rfl (fun w hc => ld1 ag3 hc)) rfl rfl rfl ?_; clear S a; intro a S
 refine l_pure S (p_fieldAddr rfl (fun w => fa24_7 w _ _)) rfl rfl rfl ?_; clear S a; intro a S
 refine l_read S H (r_load rfl List.mem_cons_self rfl (fun w hc => ld1 ag4 hc)) rfl rfl rfl ?_; clear S a; intro a S
 refine l_pure S (p_bld (ps := [(0, .tmp 9), (1, .tmp 11)]) rfl (bld111_0_1 _ _)) rfl rfl rfl ?_; clear S a; intro a S
 refine l_pure S (p_iface rfl (fun w => mi111 w _ _)) rfl rfl rfl ?_; clear S a; intro a S
 refine l_mv 2 S rfl ?_; clear S a; intro a S
 refine l_nil ?_
 refine e_then ?_
 refine wp_ret ?_
 refine e_in_ret ?_
 refine e_then_ret ?_
 replace H : HH B wb _ L0 := H.sub (.cons _ (.refl _))
 have eX : mw.mwire 42 sv nv dv Bo Fm Num St = 42 :: ((bif St then [63] else mw.sdec Num) ++ [13, 10]) := by unfold mw.mwire; simp
 exact r_ret2 S rfl rfl rfl ⟨_, [], rfl, ⟨111, _, _, _, rfl, fun w => me111 w _, fun w => nl111 w _, Tryz.func142, rfl, rfl, fun wb w0 B L0 hs go bp b l ls hE ht hT H hl => by rw [eX]; exact ms.hd42_ wb w0 B L0 go bp b l ls hE ht hT H hl Num hNum St⟩, HH.app H (by simp)⟩
theorem hd37_ (wb w0 : World) (B : Nat) (L0 : dc.Bk) (sv : ByteArray) (nv : Int) (dv : Nat) (Bo : Bool) (Fm : ByteArray) (Num : Int) (St : Bool) (hN : -9223372036854775808 ≤ nv ∧ nv ≤ 9223372036854775807) (hNum : -9223372036854775808 ≤ Num ∧ Num ≤ 9223372036854775807)  (H : HH B wb w0 L0) : Calls Tryz.prog 20 #[.agg #[.int .i64 37, .string sv, .int .i64 nv, .float .f64 dv, .bool Bo, .string Fm, .int .i64 Num, .bool St]] w0 fun e w' => ∃ (iv : Value) (ow : List (Nat × Obj)), e = .returned (.tuple #[iv, .bool true]) ∧ MRun iv ow (mw.mwire 37 sv nv dv Bo Fm Num St) ∧ HH B wb w' (ow ++ L0) := by
 refine c_enter (args := [.agg #[.int .i64 37, .string sv, .int .i64 nv, .float .f64 dv, .bool Bo, .string Fm, .int .i64 Num, .bool St]]) (k := 41) Tryz.func20 rfl rfl rfl (fun a S => ?_)
 refine wp_seq ?_
 refine c_region ?_
 refine l_box (cs := #[.int .i64 37, .string sv, .int .i64 nv, .float .f64 dv, .bool Bo, .string Fm, .int .i64 Num, .bool St]) S H rfl rfl (fun w => bx) rfl rfl rfl ?_; clear S a H; intro g1 w a H S
 refine l_mv 2 S rfl ?_; clear S a; intro a S
 refine l_nil ?_
 refine e_then ?_
 refine wp_seq ?_
 refine wp_seq ?_
 refine c_region ?_
 refine l_pure S (p_fieldAddr rfl (fun w => fa24_0 w _ _)) rfl rfl rfl ?_; clear S a; intro a S
 refine l_read S H (r_load rfl List.mem_cons_self rfl (fun w hc => ld1 ag3 hc)) rfl rfl rfl ?_; clear S a; intro a S
 refine l_nil ?_
 refine e_then ?_
 refine wp_block ?_
 refine wp_seq ?_
 refine c_region ?_
 refine l_pure S (p_eql rfl rfl) rfl rfl rfl ?_; clear S a; intro a S
 refine l_mv 1 S rfl ?_; clear S a; intro a S
 refine l_nil ?_
 refine e_then ?_
 refine c_cond (b := false) S rfl (fun h => by cases h) (fun _ => ?_)
 refine wp_seq ?_
 refine c_region ?_
 refine l_pure S (p_eql rfl rfl) rfl rfl rfl ?_; clear S a; intro a S
 refine l_mv 1 S rfl ?_; clear S a; intro a S
 refine l_nil ?_
 refine e_then ?_
 refine c_cond (b := true) S rfl (fun _ => ?_) (fun h => by cases h)
 refine wp_seq ?_
 refine c_region ?_
 refine l_pure S (p_fieldAddr rfl (fun w => fa24_6 w _ _)) rfl rfl rfl ?_; clear S a; intro a S
 refine l_read S H (r_load rfl List.mem_cons_self rfl (fun w hc => ld1 ag3 hc)) rfl rfl rfl ?_; clear S a; intro a S
 refine l_pure S (p_fieldAddr rfl (fun w => fa24_7 w _ _)) rfl rfl rfl ?_; clear S a; intro a S
 refine l_read S H (r_load rfl List.mem_cons_self rfl (fun w hc => ld1 ag4 hc)) rfl rfl rfl ?_; clear S a; intro a S
 refine l_pure S (p_bld (ps := [(0, .tmp 17), (1, .tmp 19)]) rfl (bld113_0_1 _ _)) rfl rfl rfl ?_; clear S a; intro a S
 refine l_pure S (p_iface rfl (fun w => mi113 w _ _)) rfl rfl rfl ?_; clear S a; intro a S
 refine l_mv 2 S rfl ?_; clear S a; intro a S
 refine l_nil ?_
 refine e_then ?_
 refine wp_ret ?_
 refine e_in_ret ?_
 refine e_then_ret ?_
 replace H : HH B wb _ L0 := H.sub (.cons _ (.refl _))
 have eX : mw.mwire 37 sv nv dv Bo Fm Num St = 37 :: ((bif St then [63] else mw.sdec Num) ++ [13, 10]) := by unfold mw.mwire; simp
 exact r_ret2 S rfl rfl rfl ⟨_, [], rfl, ⟨113, _, _, _, rfl, fun w => me113 w _, fun w => nl113 w _, Tryz.func144, rfl, rfl, fun wb w0 B L0 hs go bp b l ls hE ht hT H hl => by rw [eX]; exact ms.hd37_ wb w0 B L0 go bp b l ls hE ht hT H hl Num hNum St⟩, HH.app H (by simp)⟩
theorem hd126_ (wb w0 : World) (B : Nat) (L0 : dc.Bk) (sv : ByteArray) (nv : Int) (dv : Nat) (Bo : Bool) (Fm : ByteArray) (Num : Int) (St : Bool) (hN : -9223372036854775808 ≤ nv ∧ nv ≤ 9223372036854775807) (hNum : -9223372036854775808 ≤ Num ∧ Num ≤ 9223372036854775807)  (H : HH B wb w0 L0) : Calls Tryz.prog 20 #[.agg #[.int .i64 126, .string sv, .int .i64 nv, .float .f64 dv, .bool Bo, .string Fm, .int .i64 Num, .bool St]] w0 fun e w' => ∃ (iv : Value) (ow : List (Nat × Obj)), e = .returned (.tuple #[iv, .bool true]) ∧ MRun iv ow (mw.mwire 126 sv nv dv Bo Fm Num St) ∧ HH B wb w' (ow ++ L0) := by
 refine c_enter (args := [.agg #[.int .i64 126, .string sv, .int .i64 nv, .float .f64 dv, .bool Bo, .string Fm, .int .i64 Num, .bool St]]) (k := 41) Tryz.func20 rfl rfl rfl (fun a S => ?_)
 refine wp_seq ?_
 refine c_region ?_
 refine l_box (cs := #[.int .i64 126, .string sv, .int .i64 nv, .float .f64 dv, .bool Bo, .string Fm, .int .i64 Num, .bool St]) S H rfl rfl (fun w => bx) rfl rfl rfl ?_; clear S a H; intro g1 w a H S
 refine l_mv 2 S rfl ?_; clear S a; intro a S
 refine l_nil ?_
 refine e_then ?_
 refine wp_seq ?_
 refine wp_seq ?_
 refine c_region ?_
 refine l_pure S (p_fieldAddr rfl (fun w => fa24_0 w _ _)) rfl rfl rfl ?_; clear S a; intro a S
 refine l_read S H (r_load rfl List.mem_cons_self rfl (fun w hc => ld1 ag3 hc)) rfl rfl rfl ?_; clear S a; intro a S
 refine l_nil ?_
 refine e_then ?_
 refine wp_block ?_
 refine wp_seq ?_
 refine c_region ?_
 refine l_pure S (p_eql rfl rfl) rfl rfl rfl ?_; clear S a; intro a S
 refine l_mv 1 S rfl ?_; clear S a; intro a S
 refine l_nil ?_
 refine e_then ?_
 refine c_cond (b := false) S rfl (fun h => by cases h) (fun _ => ?_)
 refine wp_seq ?_
 refine c_region ?_
 refine l_pure S (p_eql rfl rfl) rfl rfl rfl ?_; clear S a; intro a S
 refine l_mv 1 S rfl ?_; clear S a; intro a S
 refine l_nil ?_
 refine e_then ?_
 refine c_cond (b := false) S rfl (fun h => by cases h) (fun _ => ?_)
 refine wp_seq ?_
 refine c_region ?_
 refine l_pure S (p_eql rfl rfl) rfl rfl rfl ?_; clear S a; intro a S
 refine l_mv 1 S rfl ?_; clear S a; intro a S
 refine l_nil ?_
 refine e_then ?_
 refine c_cond (b := true) S rfl (fun _ => ?_) (fun h => by cases h)
 refine wp_seq ?_
 refine c_region ?_
 refine l_pure S (p_fieldAddr rfl (fun w => fa24_6 w _ _)) rfl rfl rfl ?_; clear S a; intro a S
 refine l_read S H (r_load rfl List.mem_cons_self rfl (fun w hc => ld1 ag3 hc)) rfl rfl rfl ?_; clear S a; intro a S
 refine l_pure S (p_fieldAddr rfl (fun w => fa24_7 w _ _)) rfl rfl rfl ?_; clear S a; intro a S
 refine l_read S H (r_load rfl List.mem_cons_self rfl (fun w hc => ld1 ag4 hc)) rfl rfl rfl ?_; clear S a; intro a S
 refine l_pure S (p_bld (ps := [(0, .tmp 25), (1, .tmp 27)]) rfl (bld115_0_1 _ _)) rfl rfl rfl ?_; clear S a; intro a S
 refine l_pure S (p_iface rfl (fun w => mi115 w _ _)) rfl rfl rfl ?_; clear S a; intro a S
 refine l_mv 2 S rfl ?_; clear S a; intro a S
 refine l_nil ?_
 refine e_then ?_
 refine wp_ret ?_
 refine e_in_ret ?_
 refine e_then_ret ?_
 replace H : HH B wb _ L0 := H.sub (.cons _ (.refl _))
 have eX : mw.mwire 126 sv nv dv Bo Fm Num St = 126 :: ((bif St then [63] else mw.sdec Num) ++ [13, 10]) := by unfold mw.mwire; simp
 exact r_ret2 S rfl rfl rfl ⟨_, [], rfl, ⟨115, _, _, _, rfl, fun w => me115 w _, fun w => nl115 w _, Tryz.func145, rfl, rfl, fun wb w0 B L0 hs go bp b l ls hE ht hT H hl => by rw [eX]; exact ms.hd126_ wb w0 B L0 go bp b l ls hE ht hT H hl Num hNum St⟩, HH.app H (by simp)⟩
theorem hd124_ (wb w0 : World) (B : Nat) (L0 : dc.Bk) (sv : ByteArray) (nv : Int) (dv : Nat) (Bo : Bool) (Fm : ByteArray) (Num : Int) (St : Bool) (hN : -9223372036854775808 ≤ nv ∧ nv ≤ 9223372036854775807) (hNum : -9223372036854775808 ≤ Num ∧ Num ≤ 9223372036854775807)  (H : HH B wb w0 L0) : Calls Tryz.prog 20 #[.agg #[.int .i64 124, .string sv, .int .i64 nv, .float .f64 dv, .bool Bo, .string Fm, .int .i64 Num, .bool St]] w0 fun e w' => ∃ (iv : Value) (ow : List (Nat × Obj)), e = .returned (.tuple #[iv, .bool true]) ∧ MRun iv ow (mw.mwire 124 sv nv dv Bo Fm Num St) ∧ HH B wb w' (ow ++ L0) := by
 refine c_enter (args := [.agg #[.int .i64 124, .string sv, .int .i64 nv, .float .f64 dv, .bool Bo, .string Fm, .int .i64 Num, .bool St]]) (k := 41) Tryz.func20 rfl rfl rfl (fun a S => ?_)
 refine wp_seq ?_
 refine c_region ?_
 refine l_box (cs := #[.int .i64 124, .string sv, .int .i64 nv, .float .f64 dv, .bool Bo, .string Fm, .int .i64 Num, .bool St]) S H rfl rfl (fun w => bx) rfl rfl rfl ?_; clear S a H; intro g1 w a H S
 refine l_mv 2 S rfl ?_; clear S a; intro a S
 refine l_nil ?_
 refine e_then ?_
 refine wp_seq ?_
 refine wp_seq ?_
 refine c_region ?_
 refine l_pure S (p_fieldAddr rfl (fun w => fa24_0 w _ _)) rfl rfl rfl ?_; clear S a; intro a S
 refine l_read S H (r_load rfl List.mem_cons_self rfl (fun w hc => ld1 ag3 hc)) rfl rfl rfl ?_; clear S a; intro a S
 refine l_nil ?_
 refine e_then ?_
 refine wp_block ?_
 refine wp_seq ?_
 refine c_region ?_
 refine l_pure S (p_eql rfl rfl) rfl rfl rfl ?_; clear S a; intro a S
 refine l_mv 1 S rfl ?_; clear S a; intro a S
 refine l_nil ?_
 refine e_then ?_
 refine c_cond (b := false) S rfl (fun h => by cases h) (fun _ => ?_)
 refine wp_seq ?_
 refine c_region ?_
 refine l_pure S (p_eql rfl rfl) rfl rfl rfl ?_; clear S a; intro a S
 refine l_mv 1 S rfl ?_; clear S a; intro a S
 refine l_nil ?_
 refine e_then ?_
 refine c_cond (b := false) S rfl (fun h => by cases h) (fun _ => ?_)
 refine wp_seq ?_
 refine c_region ?_
 refine l_pure S (p_eql rfl rfl) rfl rfl rfl ?_; clear S a; intro a S
 refine l_mv 1 S rfl ?_; clear S a; intro a S
 refine l_nil ?_
 refine e_then ?_
 refine c_cond (b := false) S rfl (fun h => by cases h) (fun _ => ?_)
 refine wp_seq ?_
 refine c_region ?_
 refine l_pure S (p_eql rfl rfl) rfl rfl rfl ?_; clear S a; intro a S
 refine l_mv 1 S rfl ?_; clear S a; intro a S
 refine l_nil ?_
 refine e_then ?_
 refine c_cond (b := true) S rfl (fun _ => ?_) (fun h => by cases h)
 refine wp_seq ?_
 refine c_region ?_
 refine l_pure S (p_fieldAddr rfl (fun w => fa24_6 w _ _)) rfl rfl rfl ?_; clear S a; intro a S
 refine l_read S H (r_load rfl List.mem_cons_self rfl (fun w hc => ld1 ag3 hc)) rfl rfl rfl ?_; clear S a; intro a S
 refine l_pure S (p_bld (ps := [(0, .tmp 33)]) rfl (bld117_0 _)) rfl rfl rfl ?_; clear S a; intro a S
 refine l_pure S (p_iface rfl (fun w => mi117 w _)) rfl rfl rfl ?_; clear S a; intro a S
 refine l_mv 2 S rfl ?_; clear S a; intro a S
 refine l_nil ?_
 refine e_then ?_
 refine wp_ret ?_
 refine e_in_ret ?_
 refine e_then_ret ?_
 replace H : HH B wb _ L0 := H.sub (.cons _ (.refl _))
 have eX : mw.mwire 124 sv nv dv Bo Fm Num St = 124 :: (mw.sdec Num ++ [13, 10]) := by unfold mw.mwire; simp
 exact r_ret2 S rfl rfl rfl ⟨_, [], rfl, ⟨117, _, _, _, rfl, fun w => me117 w _, fun w => nl117 w _, Tryz.func146, rfl, rfl, fun wb w0 B L0 hs go bp b l ls hE ht hT H hl => by rw [eX]; exact ms.hd124_ wb w0 B L0 go bp b l ls hE ht hT H hl Num hNum⟩, HH.app H (by simp)⟩
theorem hd62_ (wb w0 : World) (B : Nat) (L0 : dc.Bk) (sv : ByteArray) (nv : Int) (dv : Nat) (Bo : Bool) (Fm : ByteArray) (Num : Int) (St : Bool) (hN : -9223372036854775808 ≤ nv ∧ nv ≤ 9223372036854775807) (hNum : -9223372036854775808 ≤ Num ∧ Num ≤ 9223372036854775807)  (H : HH B wb w0 L0) : Calls Tryz.prog 20 #[.agg #[.int .i64 62, .string sv, .int .i64 nv, .float .f64 dv, .bool Bo, .string Fm, .int .i64 Num, .bool St]] w0 fun e w' => ∃ (iv : Value) (ow : List (Nat × Obj)), e = .returned (.tuple #[iv, .bool true]) ∧ MRun iv ow (mw.mwire 62 sv nv dv Bo Fm Num St) ∧ HH B wb w' (ow ++ L0) := by
 refine c_enter (args := [.agg #[.int .i64 62, .string sv, .int .i64 nv, .float .f64 dv, .bool Bo, .string Fm, .int .i64 Num, .bool St]]) (k := 41) Tryz.func20 rfl rfl rfl (fun a S => ?_)
 refine wp_seq ?_
 refine c_region ?_
 refine l_box (cs := #[.int .i64 62, .string sv, .int .i64 nv, .float .f64 dv, .bool Bo, .string Fm, .int .i64 Num, .bool St]) S H rfl rfl (fun w => bx) rfl rfl rfl ?_; clear S a H; intro g1 w a H S
 refine l_mv 2 S rfl ?_; clear S a; intro a S
 refine l_nil ?_
 refine e_then ?_
 refine wp_seq ?_
 refine wp_seq ?_
 refine c_region ?_
 refine l_pure S (p_fieldAddr rfl (fun w => fa24_0 w _ _)) rfl rfl rfl ?_; clear S a; intro a S
 refine l_read S H (r_load rfl List.mem_cons_self rfl (fun w hc => ld1 ag3 hc)) rfl rfl rfl ?_; clear S a; intro a S
 refine l_nil ?_
 refine e_then ?_
 refine wp_block ?_
 refine wp_seq ?_
 refine c_region ?_
 refine l_pure S (p_eql rfl rfl) rfl rfl rfl ?_; clear S a; intro a S
 refine l_mv 1 S rfl ?_; clear S a; intro a S
 refine l_nil ?_
 refine e_then ?_
 refine c_cond (b := false) S rfl (fun h => by cases h) (fun _ => ?_)
 refine wp_seq ?_
 refine c_region ?_
 refine l_pure S (p_eql rfl rfl) rfl rfl rfl ?_; clear S a; intro a S
 refine l_mv 1 S rfl ?_; clear S a; intro a S
 refine l_nil ?_
 refine e_then ?_
 refine c_cond (b := false) S rfl (fun h => by cases h) (fun _ => ?_)
 refine wp_seq ?_
 refine c_region ?_
 refine l_pure S (p_eql rfl rfl) rfl rfl rfl ?_; clear S a; intro a S
 refine l_mv 1 S rfl ?_; clear S a; intro a S
 refine l_nil ?_
 refine e_then ?_
 refine c_cond (b := false) S rfl (fun h => by cases h) (fun _ => ?_)
 refine wp_seq ?_
 refine c_region ?_
 refine l_pure S (p_eql rfl rfl) rfl rfl rfl ?_; clear S a; intro a S
 refine l_mv 1 S rfl ?_; clear S a; intro a S
 refine l_nil ?_
 refine e_then ?_
 refine c_cond (b := false) S rfl (fun h => by cases h) (fun _ => ?_)
 refine wp_seq ?_
 refine c_region ?_
 refine l_pure S (p_eql rfl rfl) rfl rfl rfl ?_; clear S a; intro a S
 refine l_mv 1 S rfl ?_; clear S a; intro a S
 refine l_nil ?_
 refine e_then ?_
 refine c_cond (b := true) S rfl (fun _ => ?_) (fun h => by cases h)
 refine wp_seq ?_
 refine c_region ?_
 refine l_pure S (p_fieldAddr rfl (fun w => fa24_6 w _ _)) rfl rfl rfl ?_; clear S a; intro a S
 refine l_read S H (r_load rfl List.mem_cons_self rfl (fun w hc => ld1 ag3 hc)) rfl rfl rfl ?_; clear S a; intro a S
 refine l_pure S (p_bld (ps := [(0, .tmp 39)]) rfl (bld119_0 _)) rfl rfl rfl ?_; clear S a; intro a S
 refine l_pure S (p_iface rfl (fun w => mi119 w _)) rfl rfl rfl ?_; clear S a; intro a S
 refine l_mv 2 S rfl ?_; clear S a; intro a S
 refine l_nil ?_
 refine e_then ?_
 refine wp_ret ?_
 refine e_in_ret ?_
 refine e_then_ret ?_
 replace H : HH B wb _ L0 := H.sub (.cons _ (.refl _))
 have eX : mw.mwire 62 sv nv dv Bo Fm Num St = 62 :: (mw.sdec Num ++ [13, 10]) := by unfold mw.mwire; simp
 exact r_ret2 S rfl rfl rfl ⟨_, [], rfl, ⟨119, _, _, _, rfl, fun w => me119 w _, fun w => nl119 w _, Tryz.func147, rfl, rfl, fun wb w0 B L0 hs go bp b l ls hE ht hT H hl => by rw [eX]; exact ms.hd62_ wb w0 B L0 go bp b l ls hE ht hT H hl Num hNum⟩, HH.app H (by simp)⟩
theorem m36tt_ (wb w0 : World) (B : Nat) (L0 : dc.Bk) (sv : ByteArray) (nv : Int) (dv : Nat) (Bo : Bool) (Fm : ByteArray) (Num : Int) (hN : -9223372036854775808 ≤ nv ∧ nv ≤ 9223372036854775807) (hNum : -9223372036854775808 ≤ Num ∧ Num ≤ 9223372036854775807) (hS : sv.size ≤ 2000) (hFm : Fm.size ≤ 100) (hF : dv < 18446744073709551616)  (H : HH B wb w0 L0) : Calls Tryz.prog 12 #[.agg #[.int .i64 36, .string sv, .int .i64 nv, .float .f64 dv, .bool Bo, .string Fm, .int .i64 Num, .bool true], .bool true] w0 fun e w' => ∃ (iv : Value) (ow : List (Nat × Obj)), e = .returned (.tuple #[iv, .bool true]) ∧ MRun iv ow (mw.mwire 36 sv nv dv Bo Fm Num true) ∧ HH B wb w' (ow ++ L0) := by
 refine c_enter (args := [.agg #[.int .i64 36, .string sv, .int .i64 nv, .float .f64 dv, .bool Bo, .string Fm, .int .i64 Num, .bool true], .bool true]) (k := 100) Tryz.func12 rfl rfl rfl (fun a S => ?_)
 refine wp_seq ?_
 refine c_region ?_
 refine l_box (cs := #[.int .i64 36, .string sv, .int .i64 nv, .float .f64 dv, .bool Bo, .string Fm, .int .i64 Num, .bool true]) S H rfl rfl (fun w => bx) rfl rfl rfl ?_; clear S a H; intro g1 w a H S
 refine l_mv 2 S rfl ?_; clear S a; intro a S
 refine l_nil ?_
 refine e_then ?_
 refine wp_seq ?_
 refine wp_seq ?_
 refine c_region ?_
 refine l_pure S (p_fieldAddr rfl (fun w => fa24_0 w _ _)) rfl rfl rfl ?_; clear S a; intro a S
 refine l_read S H (r_load rfl List.mem_cons_self rfl (fun w hc => ld1 ag3 hc)) rfl rfl rfl ?_; clear S a; intro a S
 refine l_nil ?_
 refine e_then ?_
 refine wp_block ?_
 refine wp_seq ?_
 refine c_region ?_
 refine l_pure S (p_eql rfl rfl) rfl rfl rfl ?_; clear S a; intro a S
 refine l_mv 1 S rfl ?_; clear S a; intro a S
 refine l_nil ?_
 refine e_then ?_
 refine c_cond (b := true) S rfl (fun _ => ?_) (fun h => by cases h)
 refine wp_seq ?_
 refine wp_seq ?_
 refine c_region ?_
 refine l_mv 1 S rfl ?_; clear S a; intro a S
 refine l_nil ?_
 refine e_then ?_
 refine c_cond (b := true) S rfl (fun _ => ?_) (fun h => by cases h)
 refine wp_seq ?_
 refine c_region ?_
 refine l_pure S (p_fieldAddr rfl (fun w => fa24_1 w _ _)) rfl rfl rfl ?_; clear S a; intro a S
 refine l_read S H (r_load rfl List.mem_cons_self rfl (fun w hc => ld1 ag9 hc)) rfl rfl rfl ?_; clear S a; intro a S
 refine l_bytesOwn (s := sv) S H rfl rfl Tryz.underlying9 Tryz.underlying34 Tryz.underlying5 rfl rfl rfl ?_; clear S a H; intro v_ ow7 w a how7 H S
 rw [← ints_len sv] at how7
 obtain ⟨Aow7, cow7, rfl, _⟩ := how7.slice
 refine l_pure S (p_fieldAddr rfl (fun w => fa24_7 w _ _)) rfl rfl rfl ?_; clear S a; intro a S
 refine l_read S H (r_load rfl (List.mem_append_right _ List.mem_cons_self) rfl (fun w hc => ld1 ag4 hc)) rfl rfl rfl ?_; clear S a; intro a S
 refine l_pure S (p_bld (ps := [(0, .tmp 13), (1, .tmp 15)]) rfl (bld56_0_1 _ _ _ _)) rfl rfl rfl ?_; clear S a; intro a S
 refine l_pure S (p_iface rfl (fun w => mi56 w _ _ _ _)) rfl rfl rfl ?_; clear S a; intro a S
 refine l_mv 2 S rfl ?_; clear S a; intro a S
 refine l_nil ?_
 refine e_then ?_
 refine wp_ret ?_
 refine e_then_ret ?_
 refine e_in_ret ?_
 refine e_then_ret ?_
 replace H : HH B wb _ (ow7 ++ L0) := H.sub (List.Sublist.append (.refl _) (.cons _ (.refl _)))
 have eX : mw.mwire 36 sv nv dv Bo Fm Num true = [36, 63, 13, 10] := by unfold mw.mwire; simp
 exact r_ret2 S rfl rfl rfl ⟨_, ow7, rfl, ⟨56, _, _, _, rfl, fun w => me56 w _, fun w => nl56 w _, Tryz.func104, rfl, rfl, fun wb w0 B L0 hs go bp b l ls hE ht hT H hl => by rw [eX]; exact ms.bsbt_ wb w0 B L0 go bp b l ls hE ht hT H hl Aow7 cow7 (ints sv) ow7 how7 (fun p hp => hs p (by simp [hp])) (by rw [ints_len]; omega)⟩, HH.app H (by simp)⟩
theorem m36tf_ (wb w0 : World) (B : Nat) (L0 : dc.Bk) (sv : ByteArray) (nv : Int) (dv : Nat) (Bo : Bool) (Fm : ByteArray) (Num : Int) (hN : -9223372036854775808 ≤ nv ∧ nv ≤ 9223372036854775807) (hNum : -9223372036854775808 ≤ Num ∧ Num ≤ 9223372036854775807) (hS : sv.size ≤ 2000) (hFm : Fm.size ≤ 100) (hF : dv < 18446744073709551616)  (H : HH B wb w0 L0) : Calls Tryz.prog 12 #[.agg #[.int .i64 36, .string sv, .int .i64 nv, .float .f64 dv, .bool Bo, .string Fm, .int .i64 Num, .bool false], .bool true] w0 fun e w' => ∃ (iv : Value) (ow : List (Nat × Obj)), e = .returned (.tuple #[iv, .bool true]) ∧ MRun iv ow (mw.mwire 36 sv nv dv Bo Fm Num false) ∧ HH B wb w' (ow ++ L0) := by
 refine c_enter (args := [.agg #[.int .i64 36, .string sv, .int .i64 nv, .float .f64 dv, .bool Bo, .string Fm, .int .i64 Num, .bool false], .bool true]) (k := 100) Tryz.func12 rfl rfl rfl (fun a S => ?_)
 refine wp_seq ?_
 refine c_region ?_
 refine l_box (cs := #[.int .i64 36, .string sv, .int .i64 nv, .float .f64 dv, .bool Bo, .string Fm, .int .i64 Num, .bool false]) S H rfl rfl (fun w => bx) rfl rfl rfl ?_; clear S a H; intro g1 w a H S
 refine l_mv 2 S rfl ?_; clear S a; intro a S
 refine l_nil ?_
 refine e_then ?_
 refine wp_seq ?_
 refine wp_seq ?_
 refine c_region ?_
 refine l_pure S (p_fieldAddr rfl (fun w => fa24_0 w _ _)) rfl rfl rfl ?_; clear S a; intro a S
 refine l_read S H (r_load rfl List.mem_cons_self rfl (fun w hc => ld1 ag3 hc)) rfl rfl rfl ?_; clear S a; intro a S
 refine l_nil ?_
 refine e_then ?_
 refine wp_block ?_
 refine wp_seq ?_
 refine c_region ?_
 refine l_pure S (p_eql rfl rfl) rfl rfl rfl ?_; clear S a; intro a S
 refine l_mv 1 S rfl ?_; clear S a; intro a S
 refine l_nil ?_
 refine e_then ?_
 refine c_cond (b := true) S rfl (fun _ => ?_) (fun h => by cases h)
 refine wp_seq ?_
 refine wp_seq ?_
 refine c_region ?_
 refine l_mv 1 S rfl ?_; clear S a; intro a S
 refine l_nil ?_
 refine e_then ?_
 refine c_cond (b := true) S rfl (fun _ => ?_) (fun h => by cases h)
 refine wp_seq ?_
 refine c_region ?_
 refine l_pure S (p_fieldAddr rfl (fun w => fa24_1 w _ _)) rfl rfl rfl ?_; clear S a; intro a S
 refine l_read S H (r_load rfl List.mem_cons_self rfl (fun w hc => ld1 ag9 hc)) rfl rfl rfl ?_; clear S a; intro a S
 refine l_bytesOwn (s := sv) S H rfl rfl Tryz.underlying9 Tryz.underlying34 Tryz.underlying5 rfl rfl rfl ?_; clear S a H; intro v_ ow7 w a how7 H S
 rw [← ints_len sv] at how7
 obtain ⟨Aow7, cow7, rfl, _⟩ := how7.slice
 refine l_pure S (p_fieldAddr rfl (fun w => fa24_7 w _ _)) rfl rfl rfl ?_; clear S a; intro a S
 refine l_read S H (r_load rfl (List.mem_append_right _ List.mem_cons_self) rfl (fun w hc => ld1 ag4 hc)) rfl rfl rfl ?_; clear S a; intro a S
 refine l_pure S (p_bld (ps := [(0, .tmp 13), (1, .tmp 15)]) rfl (bld56_0_1 _ _ _ _)) rfl rfl rfl ?_; clear S a; intro a S
 refine l_pure S (p_iface rfl (fun w => mi56 w _ _ _ _)) rfl rfl rfl ?_; clear S a; intro a S
 refine l_mv 2 S rfl ?_; clear S a; intro a S
 refine l_nil ?_
 refine e_then ?_
 refine wp_ret ?_
 refine e_then_ret ?_
 refine e_in_ret ?_
 refine e_then_ret ?_
 replace H : HH B wb _ (ow7 ++ L0) := H.sub (List.Sublist.append (.refl _) (.cons _ (.refl _)))
 have eX : mw.mwire 36 sv nv dv Bo Fm Num false = mw.bl 36 (ints sv).length (ints sv) := by unfold mw.mwire; simp [ints_len]
 exact r_ret2 S rfl rfl rfl ⟨_, ow7, rfl, ⟨56, _, _, _, rfl, fun w => me56 w _, fun w => nl56 w _, Tryz.func104, rfl, rfl, fun wb w0 B L0 hs go bp b l ls hE ht hT H hl => by rw [eX]; exact ms.bsbf_ wb w0 B L0 go bp b l ls hE ht hT H hl Aow7 cow7 (ints sv) ow7 how7 (fun p hp => hs p (by simp [hp])) (by rw [ints_len]; omega)⟩, HH.app H (by simp)⟩
theorem m61t_ (wb w0 : World) (B : Nat) (L0 : dc.Bk) (sv : ByteArray) (nv : Int) (dv : Nat) (Bo : Bool) (Fm : ByteArray) (Num : Int) (St : Bool) (hN : -9223372036854775808 ≤ nv ∧ nv ≤ 9223372036854775807) (hNum : -9223372036854775808 ≤ Num ∧ Num ≤ 9223372036854775807) (hS : sv.size ≤ 2000) (hFm : Fm.size ≤ 100) (hF : dv < 18446744073709551616) (h3 : Fm.size = 3) (H : HH B wb w0 L0) : Calls Tryz.prog 12 #[.agg #[.int .i64 61, .string sv, .int .i64 nv, .float .f64 dv, .bool Bo, .string Fm, .int .i64 Num, .bool St], .bool true] w0 fun e w' => ∃ (iv : Value) (ow : List (Nat × Obj)), e = .returned (.tuple #[iv, .bool true]) ∧ MRun iv ow (mw.mwire 61 sv nv dv Bo Fm Num St) ∧ HH B wb w' (ow ++ L0) := by
 refine c_enter (args := [.agg #[.int .i64 61, .string sv, .int .i64 nv, .float .f64 dv, .bool Bo, .string Fm, .int .i64 Num, .bool St], .bool true]) (k := 100) Tryz.func12 rfl rfl rfl (fun a S => ?_)
 refine wp_seq ?_
 refine c_region ?_
 refine l_box (cs := #[.int .i64 61, .string sv, .int .i64 nv, .float .f64 dv, .bool Bo, .string Fm, .int .i64 Num, .bool St]) S H rfl rfl (fun w => bx) rfl rfl rfl ?_; clear S a H; intro g1 w a H S
 refine l_mv 2 S rfl ?_; clear S a; intro a S
 refine l_nil ?_
 refine e_then ?_
 refine wp_seq ?_
 refine wp_seq ?_
 refine c_region ?_
 refine l_pure S (p_fieldAddr rfl (fun w => fa24_0 w _ _)) rfl rfl rfl ?_; clear S a; intro a S
 refine l_read S H (r_load rfl List.mem_cons_self rfl (fun w hc => ld1 ag3 hc)) rfl rfl rfl ?_; clear S a; intro a S
 refine l_nil ?_
 refine e_then ?_
 refine wp_block ?_
 refine wp_seq ?_
 refine c_region ?_
 refine l_pure S (p_eql rfl rfl) rfl rfl rfl ?_; clear S a; intro a S
 refine l_mv 1 S rfl ?_; clear S a; intro a S
 refine l_nil ?_
 refine e_then ?_
 refine c_cond (b := false) S rfl (fun h => by cases h) (fun _ => ?_)
 refine wp_seq ?_
 refine c_region ?_
 refine l_pure S (p_eql rfl rfl) rfl rfl rfl ?_; clear S a; intro a S
 refine l_mv 1 S rfl ?_; clear S a; intro a S
 refine l_nil ?_
 refine e_then ?_
 refine c_cond (b := false) S rfl (fun h => by cases h) (fun _ => ?_)
 refine wp_seq ?_
 refine c_region ?_
 refine l_pure S (p_eql rfl rfl) rfl rfl rfl ?_; clear S a; intro a S
 refine l_mv 1 S rfl ?_; clear S a; intro a S
 refine l_nil ?_
 refine e_then ?_
 refine c_cond (b := false) S rfl (fun h => by cases h) (fun _ => ?_)
 refine wp_seq ?_
 refine c_region ?_
 refine l_pure S (p_eql rfl rfl) rfl rfl rfl ?_; clear S a; intro a S
 refine l_mv 1 S rfl ?_; clear S a; intro a S
 refine l_nil ?_
 refine e_then ?_
 refine c_cond (b := false) S rfl (fun h => by cases h) (fun _ => ?_)
 refine wp_seq ?_
 refine c_region ?_
 refine l_pure S (p_eql rfl rfl) rfl rfl rfl ?_; clear S a; intro a S
 refine l_mv 1 S rfl ?_; clear S a; intro a S
 refine l_nil ?_
 refine e_then ?_
 refine c_cond (b := false) S rfl (fun h => by cases h) (fun _ => ?_)
 refine wp_seq ?_
 refine c_region ?_
 refine l_pure S (p_eql rfl rfl) rfl rfl rfl ?_; clear S a; intro a S
 refine l_mv 1 S rfl ?_; clear S a; intro a S
 refine l_nil ?_
 refine e_then ?_
 refine c_cond (b := false) S rfl (fun h => by cases h) (fun _ => ?_)
 refine wp_seq ?_
 refine c_region ?_
 refine l_pure S (p_eql rfl rfl) rfl rfl rfl ?_; clear S a; intro a S
 refine l_mv 1 S rfl ?_; clear S a; intro a S
 refine l_nil ?_
 refine e_then ?_
 refine c_cond (b := false) S rfl (fun h => by cases h) (fun _ => ?_)
 refine wp_seq ?_
 refine c_region ?_
 refine l_pure S (p_eql rfl rfl) rfl rfl rfl ?_; clear S a; intro a S
 refine l_mv 1 S rfl ?_; clear S a; intro a S
 refine l_nil ?_
 refine e_then ?_
 refine c_cond (b := false) S rfl (fun h => by cases h) (fun _ => ?_)
 refine wp_seq ?_
 refine c_region ?_
 refine l_pure S (p_eql rfl rfl) rfl rfl rfl ?_; clear S a; intro a S
 refine l_mv 1 S rfl ?_; clear S a; intro a S
 refine l_nil ?_
 refine e_then ?_
 refine c_cond (b := true) S rfl (fun _ => ?_) (fun h => by cases h)
 refine wp_seq ?_
 refine wp_seq ?_
 refine c_region ?_
 refine l_mv 1 S rfl ?_; clear S a; intro a S
 refine l_nil ?_
 refine e_then ?_
 refine c_cond (b := true) S rfl (fun _ => ?_) (fun h => by cases h)
 refine wp_seq ?_
 refine c_region ?_
 refine l_pure S (p_fieldAddr rfl (fun w => fa24_1 w _ _)) rfl rfl rfl ?_; clear S a; intro a S
 refine l_read S H (r_load rfl List.mem_cons_self rfl (fun w hc => ld1 ag9 hc)) rfl rfl rfl ?_; clear S a; intro a S
 refine l_bytesOwn (s := sv) S H rfl rfl Tryz.underlying9 Tryz.underlying34 Tryz.underlying5 rfl rfl rfl ?_; clear S a H; intro v_ ow23 w a how23 H S
 rw [← ints_len sv] at how23
 obtain ⟨Aow23, cow23, rfl, _⟩ := how23.slice
 refine l_pure S (p_fieldAddr rfl (fun w => fa24_5 w _ _)) rfl rfl rfl ?_; clear S a; intro a S
 refine l_read S H (r_load rfl (List.mem_append_right _ List.mem_cons_self) rfl (fun w hc => ld1 ag9 hc)) rfl rfl rfl ?_; clear S a; intro a S
 refine l_bytesOwn (s := Fm) S H rfl rfl Tryz.underlying9 Tryz.underlying34 Tryz.underlying5 rfl rfl rfl ?_; clear S a H; intro v_ ow24 w a how24 H S
 rw [← ints_len Fm] at how24
 obtain ⟨Aow24, cow24, rfl, _⟩ := how24.slice
 refine l_pure S (p_bld (ps := [(0, .tmp 70), (1, .tmp 73)]) rfl (bld73_0_1 _ _ _ _ _ _)) rfl rfl rfl ?_; clear S a; intro a S
 refine l_pure S (p_iface rfl (fun w => mi73 w _ _ _ _ _ _)) rfl rfl rfl ?_; clear S a; intro a S
 refine l_mv 2 S rfl ?_; clear S a; intro a S
 refine l_nil ?_
 refine e_then ?_
 refine wp_ret ?_
 refine e_then_ret ?_
 refine e_in_ret ?_
 refine e_then_ret ?_
 replace H : HH B wb _ (ow24 ++ (ow23 ++ L0)) := H.sub (List.Sublist.append (.refl _) (List.Sublist.append (.refl _) (.cons _ (.refl _))))
 have eX : mw.mwire 61 sv nv dv Bo Fm Num St = mw.bl 61 ((ints sv).length + 4) (ints Fm ++ [58] ++ ints sv) := by unfold mw.mwire; simp [ints_len]
 exact r_ret2 S rfl rfl rfl ⟨_, (ow24 ++ ow23), rfl, ⟨73, _, _, _, rfl, fun w => me73 w _, fun w => nl73 w _, Tryz.func123, rfl, rfl, fun wb w0 B L0 hs go bp b l ls hE ht hT H hl => by rw [eX]; exact ms.vsb_ wb w0 B L0 go bp b l ls hE ht hT H hl Aow23 cow23 (ints sv) ow23 how23 (fun p hp => hs p (by simp [hp])) (by rw [ints_len]; omega) Aow24 cow24 (ints Fm) ow24 how24 (fun p hp => hs p (by simp [hp])) (by rw [ints_len]; exact h3)⟩, HH.app H (by simp)⟩
theorem m59tz1_ (wb w0 : World) (B : Nat) (L0 : dc.Bk) (sv : ByteArray) (nv : Int) (dv : Nat) (Bo : Bool) (Fm : ByteArray) (Num : Int) (St : Bool) (hN : -9223372036854775808 ≤ nv ∧ nv ≤ 9223372036854775807) (hNum : -9223372036854775808 ≤ Num ∧ Num ≤ 9223372036854775807) (hS : sv.size ≤ 2000) (hFm : Fm.size ≤ 100) (hF : dv < 18446744073709551616) (h0 : 0 < sv.size) (H : HH B wb w0 L0) : Calls Tryz.prog 12 #[.agg #[.int .i64 59, .string sv, .int .i64 nv, .float .f64 dv, .bool Bo, .string Fm, .int .i64 Num, .bool St], .bool true] w0 fun e w' => ∃ (iv : Value) (ow : List (Nat × Obj)), e = .returned (.tuple #[iv, .bool true]) ∧ MRun iv ow (mw.mwire 59 sv nv dv Bo Fm Num St) ∧ HH B wb w' (ow ++ L0) := by
 refine c_enter (args := [.agg #[.int .i64 59, .string sv, .int .i64 nv, .float .f64 dv, .bool Bo, .string Fm, .int .i64 Num, .bool St], .bool true]) (k := 100) Tryz.func12 rfl rfl rfl (fun a S => ?_)
 refine wp_seq ?_
 refine c_region ?_
 refine l_box (cs := #[.int .i64 59, .string sv, .int .i64 nv, .float .f64 dv, .bool Bo, .string Fm, .int .i64 Num, .bool St]) S H rfl rfl (fun w => bx) rfl rfl rfl ?_; clear S a H; intro g1 w a H S
 refine l_mv 2 S rfl ?_; clear S a; intro a S
 refine l_nil ?_
 refine e_then ?_
 refine wp_seq ?_
 refine wp_seq ?_
 refine c_region ?_
 refine l_pure S (p_fieldAddr rfl (fun w => fa24_0 w _ _)) rfl rfl rfl ?_; clear S a; intro a S
 refine l_read S H (r_load rfl List.mem_cons_self rfl (fun w hc => ld1 ag3 hc)) rfl rfl rfl ?_; clear S a; intro a S
 refine l_nil ?_
 refine e_then ?_
 refine wp_block ?_
 refine wp_seq ?_
 refine c_region ?_
 refine l_pure S (p_eql rfl rfl) rfl rfl rfl ?_; clear S a; intro a S
 refine l_mv 1 S rfl ?_; clear S a; intro a S
 refine l_nil ?_
 refine e_then ?_
 refine c_cond (b := false) S rfl (fun h => by cases h) (fun _ => ?_)
 refine wp_seq ?_
 refine c_region ?_
 refine l_pure S (p_eql rfl rfl) rfl rfl rfl ?_; clear S a; intro a S
 refine l_mv 1 S rfl ?_; clear S a; intro a S
 refine l_nil ?_
 refine e_then ?_
 refine c_cond (b := false) S rfl (fun h => by cases h) (fun _ => ?_)
 refine wp_seq ?_
 refine c_region ?_
 refine l_pure S (p_eql rfl rfl) rfl rfl rfl ?_; clear S a; intro a S
 refine l_mv 1 S rfl ?_; clear S a; intro a S
 refine l_nil ?_
 refine e_then ?_
 refine c_cond (b := false) S rfl (fun h => by cases h) (fun _ => ?_)
 refine wp_seq ?_
 refine c_region ?_
 refine l_pure S (p_eql rfl rfl) rfl rfl rfl ?_; clear S a; intro a S
 refine l_mv 1 S rfl ?_; clear S a; intro a S
 refine l_nil ?_
 refine e_then ?_
 refine c_cond (b := false) S rfl (fun h => by cases h) (fun _ => ?_)
 refine wp_seq ?_
 refine c_region ?_
 refine l_pure S (p_eql rfl rfl) rfl rfl rfl ?_; clear S a; intro a S
 refine l_mv 1 S rfl ?_; clear S a; intro a S
 refine l_nil ?_
 refine e_then ?_
 refine c_cond (b := false) S rfl (fun h => by cases h) (fun _ => ?_)
 refine wp_seq ?_
 refine c_region ?_
 refine l_pure S (p_eql rfl rfl) rfl rfl rfl ?_; clear S a; intro a S
 refine l_mv 1 S rfl ?_; clear S a; intro a S
 refine l_nil ?_
 refine e_then ?_
 refine c_cond (b := false) S rfl (fun h => by cases h) (fun _ => ?_)
 refine wp_seq ?_
 refine c_region ?_
 refine l_pure S (p_eql rfl rfl) rfl rfl rfl ?_; clear S a; intro a S
 refine l_mv 1 S rfl ?_; clear S a; intro a S
 refine l_nil ?_
 refine e_then ?_
 refine c_cond (b := false) S rfl (fun h => by cases h) (fun _ => ?_)
 refine wp_seq ?_
 refine c_region ?_
 refine l_pure S (p_eql rfl rfl) rfl rfl rfl ?_; clear S a; intro a S
 refine l_mv 1 S rfl ?_; clear S a; intro a S
 refine l_nil ?_
 refine e_then ?_
 refine c_cond (b := false) S rfl (fun h => by cases h) (fun _ => ?_)
 refine wp_seq ?_
 refine c_region ?_
 refine l_pure S (p_eql rfl rfl) rfl rfl rfl ?_; clear S a; intro a S
 refine l_mv 1 S rfl ?_; clear S a; intro a S
 refine l_nil ?_
 refine e_then ?_
 refine c_cond (b := false) S rfl (fun h => by cases h) (fun _ => ?_)
 refine wp_seq ?_
 refine c_region ?_
 refine l_pure S (p_eql rfl rfl) rfl rfl rfl ?_; clear S a; intro a S
 refine l_mv 1 S rfl ?_; clear S a; intro a S
 refine l_nil ?_
 refine e_then ?_
 refine c_cond (b := true) S rfl (fun _ => ?_) (fun h => by cases h)
 refine wp_seq ?_
 refine wp_seq ?_
 refine c_region ?_
 refine l_mv 1 S rfl ?_; clear S a; intro a S
 refine l_nil ?_
 refine e_then ?_
 refine c_cond (b := true) S rfl (fun _ => ?_) (fun h => by cases h)
 refine wp_seq ?_
 refine c_region ?_
 refine l_pure S (p_fieldAddr rfl (fun w => fa24_1 w _ _)) rfl rfl rfl ?_; clear S a; intro a S
 refine l_read S H (r_load rfl List.mem_cons_self rfl (fun w hc => ld1 ag9 hc)) rfl rfl rfl ?_; clear S a; intro a S
 refine l_bytesOwn (s := sv) S H rfl rfl Tryz.underlying9 Tryz.underlying34 Tryz.underlying5 rfl rfl rfl ?_; clear S a H; intro v_ ow25 w a how25 H S
 rw [← ints_len sv] at how25
 obtain ⟨Aow25, cow25, rfl, _⟩ := how25.slice
 refine l_pure S (p_bld (ps := [(0, .tmp 87)]) rfl (bld76_0 _ _ _)) rfl rfl rfl ?_; clear S a; intro a S
 refine l_pure S (p_iface rfl (fun w => mi76 w _ _ _)) rfl rfl rfl ?_; clear S a; intro a S
 refine l_mv 2 S rfl ?_; clear S a; intro a S
 refine l_nil ?_
 refine e_then ?_
 refine wp_ret ?_
 refine e_then_ret ?_
 refine e_in_ret ?_
 refine e_then_ret ?_
 replace H : HH B wb _ (ow25 ++ L0) := H.sub (List.Sublist.append (.refl _) (.cons _ (.refl _)))
 have eX : mw.mwire 59 sv nv dv Bo Fm Num St = 59 :: (wq.dec (ints sv).length ++ [13, 10] ++ (ints sv ++ [13, 10])) := by unfold mw.mwire; simp [ints_len, show ¬ sv.size = 0 by omega]
 exact r_ret2 S rfl rfl rfl ⟨_, ow25, rfl, ⟨76, _, _, _, rfl, fun w => me76 w _, fun w => nl76 w _, Tryz.func126, rfl, rfl, fun wb w0 B L0 hs go bp b l ls hE ht hT H hl => by rw [eX]; exact ms.chb1_ wb w0 B L0 go bp b l ls hE ht hT H hl Aow25 cow25 (ints sv) ow25 how25 (fun p hp => hs p (by simp [hp])) (by rw [ints_len]; omega) (by rw [ints_len]; exact h0)⟩, HH.app H (by simp)⟩
theorem m59tz0_ (wb w0 : World) (B : Nat) (L0 : dc.Bk) (sv : ByteArray) (nv : Int) (dv : Nat) (Bo : Bool) (Fm : ByteArray) (Num : Int) (St : Bool) (hN : -9223372036854775808 ≤ nv ∧ nv ≤ 9223372036854775807) (hNum : -9223372036854775808 ≤ Num ∧ Num ≤ 9223372036854775807) (hS : sv.size ≤ 2000) (hFm : Fm.size ≤ 100) (hF : dv < 18446744073709551616) (h0 : sv.size = 0) (H : HH B wb w0 L0) : Calls Tryz.prog 12 #[.agg #[.int .i64 59, .string sv, .int .i64 nv, .float .f64 dv, .bool Bo, .string Fm, .int .i64 Num, .bool St], .bool true] w0 fun e w' => ∃ (iv : Value) (ow : List (Nat × Obj)), e = .returned (.tuple #[iv, .bool true]) ∧ MRun iv ow (mw.mwire 59 sv nv dv Bo Fm Num St) ∧ HH B wb w' (ow ++ L0) := by
 refine c_enter (args := [.agg #[.int .i64 59, .string sv, .int .i64 nv, .float .f64 dv, .bool Bo, .string Fm, .int .i64 Num, .bool St], .bool true]) (k := 100) Tryz.func12 rfl rfl rfl (fun a S => ?_)
 refine wp_seq ?_
 refine c_region ?_
 refine l_box (cs := #[.int .i64 59, .string sv, .int .i64 nv, .float .f64 dv, .bool Bo, .string Fm, .int .i64 Num, .bool St]) S H rfl rfl (fun w => bx) rfl rfl rfl ?_; clear S a H; intro g1 w a H S
 refine l_mv 2 S rfl ?_; clear S a; intro a S
 refine l_nil ?_
 refine e_then ?_
 refine wp_seq ?_
 refine wp_seq ?_
 refine c_region ?_
 refine l_pure S (p_fieldAddr rfl (fun w => fa24_0 w _ _)) rfl rfl rfl ?_; clear S a; intro a S
 refine l_read S H (r_load rfl List.mem_cons_self rfl (fun w hc => ld1 ag3 hc)) rfl rfl rfl ?_; clear S a; intro a S
 refine l_nil ?_
 refine e_then ?_
 refine wp_block ?_
 refine wp_seq ?_
 refine c_region ?_
 refine l_pure S (p_eql rfl rfl) rfl rfl rfl ?_; clear S a; intro a S
 refine l_mv 1 S rfl ?_; clear S a; intro a S
 refine l_nil ?_
 refine e_then ?_
 refine c_cond (b := false) S rfl (fun h => by cases h) (fun _ => ?_)
 refine wp_seq ?_
 refine c_region ?_
 refine l_pure S (p_eql rfl rfl) rfl rfl rfl ?_; clear S a; intro a S
 refine l_mv 1 S rfl ?_; clear S a; intro a S
 refine l_nil ?_
 refine e_then ?_
 refine c_cond (b := false) S rfl (fun h => by cases h) (fun _ => ?_)
 refine wp_seq ?_
 refine c_region ?_
 refine l_pure S (p_eql rfl rfl) rfl rfl rfl ?_; clear S a; intro a S
 refine l_mv 1 S rfl ?_; clear S a; intro a S
 refine l_nil ?_
 refine e_then ?_
 refine c_cond (b := false) S rfl (fun h => by cases h) (fun _ => ?_)
 refine wp_seq ?_
 refine c_region ?_
 refine l_pure S (p_eql rfl rfl) rfl rfl rfl ?_; clear S a; intro a S
 refine l_mv 1 S rfl ?_; clear S a; intro a S
 refine l_nil ?_
 refine e_then ?_
 refine c_cond (b := false) S rfl (fun h => by cases h) (fun _ => ?_)
 refine wp_seq ?_
 refine c_region ?_
 refine l_pure S (p_eql rfl rfl) rfl rfl rfl ?_; clear S a; intro a S
 refine l_mv 1 S rfl ?_; clear S a; intro a S
 refine l_nil ?_
 refine e_then ?_
 refine c_cond (b := false) S rfl (fun h => by cases h) (fun _ => ?_)
 refine wp_seq ?_
 refine c_region ?_
 refine l_pure S (p_eql rfl rfl) rfl rfl rfl ?_; clear S a; intro a S
 refine l_mv 1 S rfl ?_; clear S a; intro a S
 refine l_nil ?_
 refine e_then ?_
 refine c_cond (b := false) S rfl (fun h => by cases h) (fun _ => ?_)
 refine wp_seq ?_
 refine c_region ?_
 refine l_pure S (p_eql rfl rfl) rfl rfl rfl ?_; clear S a; intro a S
 refine l_mv 1 S rfl ?_; clear S a; intro a S
 refine l_nil ?_
 refine e_then ?_
 refine c_cond (b := false) S rfl (fun h => by cases h) (fun _ => ?_)
 refine wp_seq ?_
 refine c_region ?_
 refine l_pure S (p_eql rfl rfl) rfl rfl rfl ?_; clear S a; intro a S
 refine l_mv 1 S rfl ?_; clear S a; intro a S
 refine l_nil ?_
 refine e_then ?_
 refine c_cond (b := false) S rfl (fun h => by cases h) (fun _ => ?_)
 refine wp_seq ?_
 refine c_region ?_
 refine l_pure S (p_eql rfl rfl) rfl rfl rfl ?_; clear S a; intro a S
 refine l_mv 1 S rfl ?_; clear S a; intro a S
 refine l_nil ?_
 refine e_then ?_
 refine c_cond (b := false) S rfl (fun h => by cases h) (fun _ => ?_)
 refine wp_seq ?_
 refine c_region ?_
 refine l_pure S (p_eql rfl rfl) rfl rfl rfl ?_; clear S a; intro a S
 refine l_mv 1 S rfl ?_; clear S a; intro a S
 refine l_nil ?_
 refine e_then ?_
 refine c_cond (b := true) S rfl (fun _ => ?_) (fun h => by cases h)
 refine wp_seq ?_
 refine wp_seq ?_
 refine c_region ?_
 refine l_mv 1 S rfl ?_; clear S a; intro a S
 refine l_nil ?_
 refine e_then ?_
 refine c_cond (b := true) S rfl (fun _ => ?_) (fun h => by cases h)
 refine wp_seq ?_
 refine c_region ?_
 refine l_pure S (p_fieldAddr rfl (fun w => fa24_1 w _ _)) rfl rfl rfl ?_; clear S a; intro a S
 refine l_read S H (r_load rfl List.mem_cons_self rfl (fun w hc => ld1 ag9 hc)) rfl rfl rfl ?_; clear S a; intro a S
 refine l_bytesOwn (s := sv) S H rfl rfl Tryz.underlying9 Tryz.underlying34 Tryz.underlying5 rfl rfl rfl ?_; clear S a H; intro v_ ow25 w a how25 H S
 rw [← ints_len sv] at how25
 obtain ⟨Aow25, cow25, rfl, _⟩ := how25.slice
 refine l_pure S (p_bld (ps := [(0, .tmp 87)]) rfl (bld76_0 _ _ _)) rfl rfl rfl ?_; clear S a; intro a S
 refine l_pure S (p_iface rfl (fun w => mi76 w _ _ _)) rfl rfl rfl ?_; clear S a; intro a S
 refine l_mv 2 S rfl ?_; clear S a; intro a S
 refine l_nil ?_
 refine e_then ?_
 refine wp_ret ?_
 refine e_then_ret ?_
 refine e_in_ret ?_
 refine e_then_ret ?_
 replace H : HH B wb _ (ow25 ++ L0) := H.sub (List.Sublist.append (.refl _) (.cons _ (.refl _)))
 have eX : mw.mwire 59 sv nv dv Bo Fm Num St = 59 :: (wq.dec (ints sv).length ++ [13, 10] ++ ([])) := by unfold mw.mwire; simp [ints_len, h0]
 exact r_ret2 S rfl rfl rfl ⟨_, ow25, rfl, ⟨76, _, _, _, rfl, fun w => me76 w _, fun w => nl76 w _, Tryz.func126, rfl, rfl, fun wb w0 B L0 hs go bp b l ls hE ht hT H hl => by rw [eX]; exact ms.chb0_ wb w0 B L0 go bp b l ls hE ht hT H hl Aow25 cow25 (ints sv) ow25 how25 (fun p hp => hs p (by simp [hp])) (by rw [ints_len]; omega) (by rw [ints_len]; exact h0)⟩, HH.app H (by simp)⟩
theorem m36ft_ (wb w0 : World) (B : Nat) (L0 : dc.Bk) (sv : ByteArray) (nv : Int) (dv : Nat) (Bo : Bool) (Fm : ByteArray) (Num : Int) (hN : -9223372036854775808 ≤ nv ∧ nv ≤ 9223372036854775807) (hNum : -9223372036854775808 ≤ Num ∧ Num ≤ 9223372036854775807) (hS : sv.size ≤ 2000) (hFm : Fm.size ≤ 100) (hF : dv < 18446744073709551616)  (H : HH B wb w0 L0) : Calls Tryz.prog 12 #[.agg #[.int .i64 36, .string sv, .int .i64 nv, .float .f64 dv, .bool Bo, .string Fm, .int .i64 Num, .bool true], .bool false] w0 fun e w' => ∃ (iv : Value) (ow : List (Nat × Obj)), e = .returned (.tuple #[iv, .bool true]) ∧ MRun iv ow (mw.mwire 36 sv nv dv Bo Fm Num true) ∧ HH B wb w' (ow ++ L0) := by
 refine c_enter (args := [.agg #[.int .i64 36, .string sv, .int .i64 nv, .float .f64 dv, .bool Bo, .string Fm, .int .i64 Num, .bool true], .bool false]) (k := 100) Tryz.func12 rfl rfl rfl (fun a S => ?_)
 refine wp_seq ?_
 refine c_region ?_
 refine l_box (cs := #[.int .i64 36, .string sv, .int .i64 nv, .float .f64 dv, .bool Bo, .string Fm, .int .i64 Num, .bool true]) S H rfl rfl (fun w => bx) rfl rfl rfl ?_; clear S a H; intro g1 w a H S
 refine l_mv 2 S rfl ?_; clear S a; intro a S
 refine l_nil ?_
 refine e_then ?_
 refine wp_seq ?_
 refine wp_seq ?_
 refine c_region ?_
 refine l_pure S (p_fieldAddr rfl (fun w => fa24_0 w _ _)) rfl rfl rfl ?_; clear S a; intro a S
 refine l_read S H (r_load rfl List.mem_cons_self rfl (fun w hc => ld1 ag3 hc)) rfl rfl rfl ?_; clear S a; intro a S
 refine l_nil ?_
 refine e_then ?_
 refine wp_block ?_
 refine wp_seq ?_
 refine c_region ?_
 refine l_pure S (p_eql rfl rfl) rfl rfl rfl ?_; clear S a; intro a S
 refine l_mv 1 S rfl ?_; clear S a; intro a S
 refine l_nil ?_
 refine e_then ?_
 refine c_cond (b := true) S rfl (fun _ => ?_) (fun h => by cases h)
 refine wp_seq ?_
 refine wp_seq ?_
 refine c_region ?_
 refine l_mv 1 S rfl ?_; clear S a; intro a S
 refine l_nil ?_
 refine e_then ?_
 refine c_cond (b := false) S rfl (fun h => by cases h) (fun _ => ?_)
 refine wp_skip ?_
 refine e_then ?_
 refine wp_seq ?_
 refine c_region ?_
 refine l_pure S (p_fieldAddr rfl (fun w => fa24_1 w _ _)) rfl rfl rfl ?_; clear S a; intro a S
 refine l_read S H (r_load rfl List.mem_cons_self rfl (fun w hc => ld1 ag9 hc)) rfl rfl rfl ?_; clear S a; intro a S
 refine l_pure S (p_fieldAddr rfl (fun w => fa24_7 w _ _)) rfl rfl rfl ?_; clear S a; intro a S
 refine l_read S H (r_load rfl List.mem_cons_self rfl (fun w hc => ld1 ag4 hc)) rfl rfl rfl ?_; clear S a; intro a S
 refine l_pure S (p_bld (ps := [(0, .tmp 19), (1, .tmp 21)]) rfl (bld58_0_1 _ _)) rfl rfl rfl ?_; clear S a; intro a S
 refine l_pure S (p_iface rfl (fun w => mi58 w _ _)) rfl rfl rfl ?_; clear S a; intro a S
 refine l_mv 2 S rfl ?_; clear S a; intro a S
 refine l_nil ?_
 refine e_then ?_
 refine wp_ret ?_
 refine e_in_ret ?_
 refine e_then_ret ?_
 replace H : HH B wb _ L0 := H.sub (.cons _ (.refl _))
 have eX : mw.mwire 36 sv nv dv Bo Fm Num true = [36, 63, 13, 10] := by unfold mw.mwire; simp
 exact r_ret2 S rfl rfl rfl ⟨_, [], rfl, ⟨58, _, _, _, rfl, fun w => me58 w _, fun w => nl58 w _, Tryz.func108, rfl, rfl, fun wb w0 B L0 hs go bp b l ls hE ht hT H hl => by rw [eX]; exact ms.bstt_ wb w0 B L0 go bp b l ls hE ht hT H hl sv (by omega)⟩, HH.app H (by simp)⟩
theorem m36ff_ (wb w0 : World) (B : Nat) (L0 : dc.Bk) (sv : ByteArray) (nv : Int) (dv : Nat) (Bo : Bool) (Fm : ByteArray) (Num : Int) (hN : -9223372036854775808 ≤ nv ∧ nv ≤ 9223372036854775807) (hNum : -9223372036854775808 ≤ Num ∧ Num ≤ 9223372036854775807) (hS : sv.size ≤ 2000) (hFm : Fm.size ≤ 100) (hF : dv < 18446744073709551616)  (H : HH B wb w0 L0) : Calls Tryz.prog 12 #[.agg #[.int .i64 36, .string sv, .int .i64 nv, .float .f64 dv, .bool Bo, .string Fm, .int .i64 Num, .bool false], .bool false] w0 fun e w' => ∃ (iv : Value) (ow : List (Nat × Obj)), e = .returned (.tuple #[iv, .bool true]) ∧ MRun iv ow (mw.mwire 36 sv nv dv Bo Fm Num false) ∧ HH B wb w' (ow ++ L0) := by
 refine c_enter (args := [.agg #[.int .i64 36, .string sv, .int .i64 nv, .float .f64 dv, .bool Bo, .string Fm, .int .i64 Num, .bool false], .bool false]) (k := 100) Tryz.func12 rfl rfl rfl (fun a S => ?_)
 refine wp_seq ?_
 refine c_region ?_
 refine l_box (cs := #[.int .i64 36, .string sv, .int .i64 nv, .float .f64 dv, .bool Bo, .string Fm, .int .i64 Num, .bool false]) S H rfl rfl (fun w => bx) rfl rfl rfl ?_; clear S a H; intro g1 w a H S
 refine l_mv 2 S rfl ?_; clear S a; intro a S
 refine l_nil ?_
 refine e_then ?_
 refine wp_seq ?_
 refine wp_seq ?_
 refine c_region ?_
 refine l_pure S (p_fieldAddr rfl (fun w => fa24_0 w _ _)) rfl rfl rfl ?_; clear S a; intro a S
 refine l_read S H (r_load rfl List.mem_cons_self rfl (fun w hc => ld1 ag3 hc)) rfl rfl rfl ?_; clear S a; intro a S
 refine l_nil ?_
 refine e_then ?_
 refine wp_block ?_
 refine wp_seq ?_
 refine c_region ?_
 refine l_pure S (p_eql rfl rfl) rfl rfl rfl ?_; clear S a; intro a S
 refine l_mv 1 S rfl ?_; clear S a; intro a S
 refine l_nil ?_
 refine e_then ?_
 refine c_cond (b := true) S rfl (fun _ => ?_) (fun h => by cases h)
 refine wp_seq ?_
 refine wp_seq ?_
 refine c_region ?_
 refine l_mv 1 S rfl ?_; clear S a; intro a S
 refine l_nil ?_
 refine e_then ?_
 refine c_cond (b := false) S rfl (fun h => by cases h) (fun _ => ?_)
 refine wp_skip ?_
 refine e_then ?_
 refine wp_seq ?_
 refine c_region ?_
 refine l_pure S (p_fieldAddr rfl (fun w => fa24_1 w _ _)) rfl rfl rfl ?_; clear S a; intro a S
 refine l_read S H (r_load rfl List.mem_cons_self rfl (fun w hc => ld1 ag9 hc)) rfl rfl rfl ?_; clear S a; intro a S
 refine l_pure S (p_fieldAddr rfl (fun w => fa24_7 w _ _)) rfl rfl rfl ?_; clear S a; intro a S
 refine l_read S H (r_load rfl List.mem_cons_self rfl (fun w hc => ld1 ag4 hc)) rfl rfl rfl ?_; clear S a; intro a S
 refine l_pure S (p_bld (ps := [(0, .tmp 19), (1, .tmp 21)]) rfl (bld58_0_1 _ _)) rfl rfl rfl ?_; clear S a; intro a S
 refine l_pure S (p_iface rfl (fun w => mi58 w _ _)) rfl rfl rfl ?_; clear S a; intro a S
 refine l_mv 2 S rfl ?_; clear S a; intro a S
 refine l_nil ?_
 refine e_then ?_
 refine wp_ret ?_
 refine e_in_ret ?_
 refine e_then_ret ?_
 replace H : HH B wb _ L0 := H.sub (.cons _ (.refl _))
 have eX : mw.mwire 36 sv nv dv Bo Fm Num false = mw.bl 36 sv.size (ints sv) := by unfold mw.mwire; simp
 exact r_ret2 S rfl rfl rfl ⟨_, [], rfl, ⟨58, _, _, _, rfl, fun w => me58 w _, fun w => nl58 w _, Tryz.func108, rfl, rfl, fun wb w0 B L0 hs go bp b l ls hE ht hT H hl => by rw [eX]; exact ms.bstf_ wb w0 B L0 go bp b l ls hE ht hT H hl sv (by omega)⟩, HH.app H (by simp)⟩
theorem m61f_ (wb w0 : World) (B : Nat) (L0 : dc.Bk) (sv : ByteArray) (nv : Int) (dv : Nat) (Bo : Bool) (Fm : ByteArray) (Num : Int) (St : Bool) (hN : -9223372036854775808 ≤ nv ∧ nv ≤ 9223372036854775807) (hNum : -9223372036854775808 ≤ Num ∧ Num ≤ 9223372036854775807) (hS : sv.size ≤ 2000) (hFm : Fm.size ≤ 100) (hF : dv < 18446744073709551616) (h3 : Fm.size = 3) (H : HH B wb w0 L0) : Calls Tryz.prog 12 #[.agg #[.int .i64 61, .string sv, .int .i64 nv, .float .f64 dv, .bool Bo, .string Fm, .int .i64 Num, .bool St], .bool false] w0 fun e w' => ∃ (iv : Value) (ow : List (Nat × Obj)), e = .returned (.tuple #[iv, .bool true]) ∧ MRun iv ow (mw.mwire 61 sv nv dv Bo Fm Num St) ∧ HH B wb w' (ow ++ L0) := by
 refine c_enter (args := [.agg #[.int .i64 61, .string sv, .int .i64 nv, .float .f64 dv, .bool Bo, .string Fm, .int .i64 Num, .bool St], .bool false]) (k := 100) Tryz.func12 rfl rfl rfl (fun a S => ?_)
 refine wp_seq ?_
 refine c_region ?_
 refine l_box (cs := #[.int .i64 61, .string sv, .int .i64 nv, .float .f64 dv, .bool Bo, .string Fm, .int .i64 Num, .bool St]) S H rfl rfl (fun w => bx) rfl rfl rfl ?_; clear S a H; intro g1 w a H S
 refine l_mv 2 S rfl ?_; clear S a; intro a S
 refine l_nil ?_
 refine e_then ?_
 refine wp_seq ?_
 refine wp_seq ?_
 refine c_region ?_
 refine l_pure S (p_fieldAddr rfl (fun w => fa24_0 w _ _)) rfl rfl rfl ?_; clear S a; intro a S
 refine l_read S H (r_load rfl List.mem_cons_self rfl (fun w hc => ld1 ag3 hc)) rfl rfl rfl ?_; clear S a; intro a S
 refine l_nil ?_
 refine e_then ?_
 refine wp_block ?_
 refine wp_seq ?_
 refine c_region ?_
 refine l_pure S (p_eql rfl rfl) rfl rfl rfl ?_; clear S a; intro a S
 refine l_mv 1 S rfl ?_; clear S a; intro a S
 refine l_nil ?_
 refine e_then ?_
 refine c_cond (b := false) S rfl (fun h => by cases h) (fun _ => ?_)
 refine wp_seq ?_
 refine c_region ?_
 refine l_pure S (p_eql rfl rfl) rfl rfl rfl ?_; clear S a; intro a S
 refine l_mv 1 S rfl ?_; clear S a; intro a S
 refine l_nil ?_
 refine e_then ?_
 refine c_cond (b := false) S rfl (fun h => by cases h) (fun _ => ?_)
 refine wp_seq ?_
 refine c_region ?_
 refine l_pure S (p_eql rfl rfl) rfl rfl rfl ?_; clear S a; intro a S
 refine l_mv 1 S rfl ?_; clear S a; intro a S
 refine l_nil ?_
 refine e_then ?_
 refine c_cond (b := false) S rfl (fun h => by cases h) (fun _ => ?_)
 refine wp_seq ?_
 refine c_region ?_
 refine l_pure S (p_eql rfl rfl) rfl rfl rfl ?_; clear S a; intro a S
 refine l_mv 1 S rfl ?_; clear S a; intro a S
 refine l_nil ?_
 refine e_then ?_
 refine c_cond (b := false) S rfl (fun h => by cases h) (fun _ => ?_)
 refine wp_seq ?_
 refine c_region ?_
 refine l_pure S (p_eql rfl rfl) rfl rfl rfl ?_; clear S a; intro a S
 refine l_mv 1 S rfl ?_; clear S a; intro a S
 refine l_nil ?_
 refine e_then ?_
 refine c_cond (b := false) S rfl (fun h => by cases h) (fun _ => ?_)
 refine wp_seq ?_
 refine c_region ?_
 refine l_pure S (p_eql rfl rfl) rfl rfl rfl ?_; clear S a; intro a S
 refine l_mv 1 S rfl ?_; clear S a; intro a S
 refine l_nil ?_
 refine e_then ?_
 refine c_cond (b := false) S rfl (fun h => by cases h) (fun _ => ?_)
 refine wp_seq ?_
 refine c_region ?_
 refine l_pure S (p_eql rfl rfl) rfl rfl rfl ?_; clear S a; intro a S
 refine l_mv 1 S rfl ?_; clear S a; intro a S
 refine l_nil ?_
 refine e_then ?_
 refine c_cond (b := false) S rfl (fun h => by cases h) (fun _ => ?_)
 refine wp_seq ?_
 refine c_region ?_
 refine l_pure S (p_eql rfl rfl) rfl rfl rfl ?_; clear S a; intro a S
 refine l_mv 1 S rfl ?_; clear S a; intro a S
 refine l_nil ?_
 refine e_then ?_
 refine c_cond (b := false) S rfl (fun h => by cases h) (fun _ => ?_)
 refine wp_seq ?_
 refine c_region ?_
 refine l_pure S (p_eql rfl rfl) rfl rfl rfl ?_; clear S a; intro a S
 refine l_mv 1 S rfl ?_; clear S a; intro a S
 refine l_nil ?_
 refine e_then ?_
 refine c_cond (b := true) S rfl (fun _ => ?_) (fun h => by cases h)
 refine wp_seq ?_
 refine wp_seq ?_
 refine c_region ?_
 refine l_mv 1 S rfl ?_; clear S a; intro a S
 refine l_nil ?_
 refine e_then ?_
 refine c_cond (b := false) S rfl (fun h => by cases h) (fun _ => ?_)
 refine wp_skip ?_
 refine e_then ?_
 refine wp_seq ?_
 refine c_region ?_
 refine l_pure S (p_fieldAddr rfl (fun w => fa24_1 w _ _)) rfl rfl rfl ?_; clear S a; intro a S
 refine l_read S H (r_load rfl List.mem_cons_self rfl (fun w hc => ld1 ag9 hc)) rfl rfl rfl ?_; clear S a; intro a S
 refine l_pure S (p_fieldAddr rfl (fun w => fa24_5 w _ _)) rfl rfl rfl ?_; clear S a; intro a S
 refine l_read S H (r_load rfl List.mem_cons_self rfl (fun w hc => ld1 ag9 hc)) rfl rfl rfl ?_; clear S a; intro a S
 refine l_pure S (p_bld (ps := [(0, .tmp 77), (1, .tmp 79)]) rfl (bld75_0_1 _ _)) rfl rfl rfl ?_; clear S a; intro a S
 refine l_pure S (p_iface rfl (fun w => mi75 w _ _)) rfl rfl rfl ?_; clear S a; intro a S
 refine l_mv 2 S rfl ?_; clear S a; intro a S
 refine l_nil ?_
 refine e_then ?_
 refine wp_ret ?_
 refine e_in_ret ?_
 refine e_then_ret ?_
 replace H : HH B wb _ L0 := H.sub (.cons _ (.refl _))
 have eX : mw.mwire 61 sv nv dv Bo Fm Num St = mw.bl 61 (sv.size + 4) (ints Fm ++ [58] ++ ints sv) := by unfold mw.mwire; simp
 exact r_ret2 S rfl rfl rfl ⟨_, [], rfl, ⟨75, _, _, _, rfl, fun w => me75 w _, fun w => nl75 w _, Tryz.func125, rfl, rfl, fun wb w0 B L0 hs go bp b l ls hE ht hT H hl => by rw [eX]; exact ms.vst_ wb w0 B L0 go bp b l ls hE ht hT H hl sv (by omega) Fm h3⟩, HH.app H (by simp)⟩
theorem m59fz1_ (wb w0 : World) (B : Nat) (L0 : dc.Bk) (sv : ByteArray) (nv : Int) (dv : Nat) (Bo : Bool) (Fm : ByteArray) (Num : Int) (St : Bool) (hN : -9223372036854775808 ≤ nv ∧ nv ≤ 9223372036854775807) (hNum : -9223372036854775808 ≤ Num ∧ Num ≤ 9223372036854775807) (hS : sv.size ≤ 2000) (hFm : Fm.size ≤ 100) (hF : dv < 18446744073709551616) (h0 : 0 < sv.size) (H : HH B wb w0 L0) : Calls Tryz.prog 12 #[.agg #[.int .i64 59, .string sv, .int .i64 nv, .float .f64 dv, .bool Bo, .string Fm, .int .i64 Num, .bool St], .bool false] w0 fun e w' => ∃ (iv : Value) (ow : List (Nat × Obj)), e = .returned (.tuple #[iv, .bool true]) ∧ MRun iv ow (mw.mwire 59 sv nv dv Bo Fm Num St) ∧ HH B wb w' (ow ++ L0) := by
 refine c_enter (args := [.agg #[.int .i64 59, .string sv, .int .i64 nv, .float .f64 dv, .bool Bo, .string Fm, .int .i64 Num, .bool St], .bool false]) (k := 100) Tryz.func12 rfl rfl rfl (fun a S => ?_)
 refine wp_seq ?_
 refine c_region ?_
 refine l_box (cs := #[.int .i64 59, .string sv, .int .i64 nv, .float .f64 dv, .bool Bo, .string Fm, .int .i64 Num, .bool St]) S H rfl rfl (fun w => bx) rfl rfl rfl ?_; clear S a H; intro g1 w a H S
 refine l_mv 2 S rfl ?_; clear S a; intro a S
 refine l_nil ?_
 refine e_then ?_
 refine wp_seq ?_
 refine wp_seq ?_
 refine c_region ?_
 refine l_pure S (p_fieldAddr rfl (fun w => fa24_0 w _ _)) rfl rfl rfl ?_; clear S a; intro a S
 refine l_read S H (r_load rfl List.mem_cons_self rfl (fun w hc => ld1 ag3 hc)) rfl rfl rfl ?_; clear S a; intro a S
 refine l_nil ?_
 refine e_then ?_
 refine wp_block ?_
 refine wp_seq ?_
 refine c_region ?_
 refine l_pure S (p_eql rfl rfl) rfl rfl rfl ?_; clear S a; intro a S
 refine l_mv 1 S rfl ?_; clear S a; intro a S
 refine l_nil ?_
 refine e_then ?_
 refine c_cond (b := false) S rfl (fun h => by cases h) (fun _ => ?_)
 refine wp_seq ?_
 refine c_region ?_
 refine l_pure S (p_eql rfl rfl) rfl rfl rfl ?_; clear S a; intro a S
 refine l_mv 1 S rfl ?_; clear S a; intro a S
 refine l_nil ?_
 refine e_then ?_
 refine c_cond (b := false) S rfl (fun h => by cases h) (fun _ => ?_)
 refine wp_seq ?_
 refine c_region ?_
 refine l_pure S (p_eql rfl rfl) rfl rfl rfl ?_; clear S a; intro a S
 refine l_mv 1 S rfl ?_; clear S a; intro a S
 refine l_nil ?_
 refine e_then ?_
 refine c_cond (b := false) S rfl (fun h => by cases h) (fun _ => ?_)
 refine wp_seq ?_
 refine c_region ?_
 refine l_pure S (p_eql rfl rfl) rfl rfl rfl ?_; clear S a; intro a S
 refine l_mv 1 S rfl ?_; clear S a; intro a S
 refine l_nil ?_
 refine e_then ?_
 refine c_cond (b := false) S rfl (fun h => by cases h) (fun _ => ?_)
 refine wp_seq ?_
 refine c_region ?_
 refine l_pure S (p_eql rfl rfl) rfl rfl rfl ?_; clear S a; intro a S
 refine l_mv 1 S rfl ?_; clear S a; intro a S
 refine l_nil ?_
 refine e_then ?_
 refine c_cond (b := false) S rfl (fun h => by cases h) (fun _ => ?_)
 refine wp_seq ?_
 refine c_region ?_
 refine l_pure S (p_eql rfl rfl) rfl rfl rfl ?_; clear S a; intro a S
 refine l_mv 1 S rfl ?_; clear S a; intro a S
 refine l_nil ?_
 refine e_then ?_
 refine c_cond (b := false) S rfl (fun h => by cases h) (fun _ => ?_)
 refine wp_seq ?_
 refine c_region ?_
 refine l_pure S (p_eql rfl rfl) rfl rfl rfl ?_; clear S a; intro a S
 refine l_mv 1 S rfl ?_; clear S a; intro a S
 refine l_nil ?_
 refine e_then ?_
 refine c_cond (b := false) S rfl (fun h => by cases h) (fun _ => ?_)
 refine wp_seq ?_
 refine c_region ?_
 refine l_pure S (p_eql rfl rfl) rfl rfl rfl ?_; clear S a; intro a S
 refine l_mv 1 S rfl ?_; clear S a; intro a S
 refine l_nil ?_
 refine e_then ?_
 refine c_cond (b := false) S rfl (fun h => by cases h) (fun _ => ?_)
 refine wp_seq ?_
 refine c_region ?_
 refine l_pure S (p_eql rfl rfl) rfl rfl rfl ?_; clear S a; intro a S
 refine l_mv 1 S rfl ?_; clear S a; intro a S
 refine l_nil ?_
 refine e_then ?_
 refine c_cond (b := false) S rfl (fun h => by cases h) (fun _ => ?_)
 refine wp_seq ?_
 refine c_region ?_
 refine l_pure S (p_eql rfl rfl) rfl rfl rfl ?_; clear S a; intro a S
 refine l_mv 1 S rfl ?_; clear S a; intro a S
 refine l_nil ?_
 refine e_then ?_
 refine c_cond (b := true) S rfl (fun _ => ?_) (fun h => by cases h)
 refine wp_seq ?_
 refine wp_seq ?_
 refine c_region ?_
 refine l_mv 1 S rfl ?_; clear S a; intro a S
 refine l_nil ?_
 refine e_then ?_
 refine c_cond (b := false) S rfl (fun h => by cases h) (fun _ => ?_)
 refine wp_skip ?_
 refine e_then ?_
 refine wp_seq ?_
 refine c_region ?_
 refine l_pure S (p_fieldAddr rfl (fun w => fa24_1 w _ _)) rfl rfl rfl ?_; clear S a; intro a S
 refine l_read S H (r_load rfl List.mem_cons_self rfl (fun w hc => ld1 ag9 hc)) rfl rfl rfl ?_; clear S a; intro a S
 refine l_pure S (p_bld (ps := [(0, .tmp 91)]) rfl (bld77_0 _)) rfl rfl rfl ?_; clear S a; intro a S
 refine l_pure S (p_iface rfl (fun w => mi77 w _)) rfl rfl rfl ?_; clear S a; intro a S
 refine l_mv 2 S rfl ?_; clear S a; intro a S
 refine l_nil ?_
 refine e_then ?_
 refine wp_ret ?_
 refine e_in_ret ?_
 refine e_then_ret ?_
 replace H : HH B wb _ L0 := H.sub (.cons _ (.refl _))
 have eX : mw.mwire 59 sv nv dv Bo Fm Num St = 59 :: (wq.dec sv.size ++ [13, 10] ++ (ints sv ++ [13, 10])) := by unfold mw.mwire; simp [ints_len, show ¬ sv.size = 0 by omega]
 exact r_ret2 S rfl rfl rfl ⟨_, [], rfl, ⟨77, _, _, _, rfl, fun w => me77 w _, fun w => nl77 w _, Tryz.func127, rfl, rfl, fun wb w0 B L0 hs go bp b l ls hE ht hT H hl => by rw [eX]; exact ms.chs1_ wb w0 B L0 go bp b l ls hE ht hT H hl sv (by omega) h0⟩, HH.app H (by simp)⟩
theorem m59fz0_ (wb w0 : World) (B : Nat) (L0 : dc.Bk) (sv : ByteArray) (nv : Int) (dv : Nat) (Bo : Bool) (Fm : ByteArray) (Num : Int) (St : Bool) (hN : -9223372036854775808 ≤ nv ∧ nv ≤ 9223372036854775807) (hNum : -9223372036854775808 ≤ Num ∧ Num ≤ 9223372036854775807) (hS : sv.size ≤ 2000) (hFm : Fm.size ≤ 100) (hF : dv < 18446744073709551616) (h0 : sv.size = 0) (H : HH B wb w0 L0) : Calls Tryz.prog 12 #[.agg #[.int .i64 59, .string sv, .int .i64 nv, .float .f64 dv, .bool Bo, .string Fm, .int .i64 Num, .bool St], .bool false] w0 fun e w' => ∃ (iv : Value) (ow : List (Nat × Obj)), e = .returned (.tuple #[iv, .bool true]) ∧ MRun iv ow (mw.mwire 59 sv nv dv Bo Fm Num St) ∧ HH B wb w' (ow ++ L0) := by
 refine c_enter (args := [.agg #[.int .i64 59, .string sv, .int .i64 nv, .float .f64 dv, .bool Bo, .string Fm, .int .i64 Num, .bool St], .bool false]) (k := 100) Tryz.func12 rfl rfl rfl (fun a S => ?_)
 refine wp_seq ?_
 refine c_region ?_
 refine l_box (cs := #[.int .i64 59, .string sv, .int .i64 nv, .float .f64 dv, .bool Bo, .string Fm, .int .i64 Num, .bool St]) S H rfl rfl (fun w => bx) rfl rfl rfl ?_; clear S a H; intro g1 w a H S
 refine l_mv 2 S rfl ?_; clear S a; intro a S
 refine l_nil ?_
 refine e_then ?_
 refine wp_seq ?_
 refine wp_seq ?_
 refine c_region ?_
 refine l_pure S (p_fieldAddr rfl (fun w => fa24_0 w _ _)) rfl rfl rfl ?_; clear S a; intro a S
 refine l_read S H (r_load rfl List.mem_cons_self rfl (fun w hc => ld1 ag3 hc)) rfl rfl rfl ?_; clear S a; intro a S
 refine l_nil ?_
 refine e_then ?_
 refine wp_block ?_
 refine wp_seq ?_
 refine c_region ?_
 refine l_pure S (p_eql rfl rfl) rfl rfl rfl ?_; clear S a; intro a S
 refine l_mv 1 S rfl ?_; clear S a; intro a S
 refine l_nil ?_
 refine e_then ?_
 refine c_cond (b := false) S rfl (fun h => by cases h) (fun _ => ?_)
 refine wp_seq ?_
 refine c_region ?_
 refine l_pure S (p_eql rfl rfl) rfl rfl rfl ?_; clear S a; intro a S
 refine l_mv 1 S rfl ?_; clear S a; intro a S
 refine l_nil ?_
 refine e_then ?_
 refine c_cond (b := false) S rfl (fun h => by cases h) (fun _ => ?_)
 refine wp_seq ?_
 refine c_region ?_
 refine l_pure S (p_eql rfl rfl) rfl rfl rfl ?_; clear S a; intro a S
 refine l_mv 1 S rfl ?_; clear S a; intro a S
 refine l_nil ?_
 refine e_then ?_
 refine c_cond (b := false) S rfl (fun h => by cases h) (fun _ => ?_)
 refine wp_seq ?_
 refine c_region ?_
 refine l_pure S (p_eql rfl rfl) rfl rfl rfl ?_; clear S a; intro a S
 refine l_mv 1 S rfl ?_; clear S a; intro a S
 refine l_nil ?_
 refine e_then ?_
 refine c_cond (b := false) S rfl (fun h => by cases h) (fun _ => ?_)
 refine wp_seq ?_
 refine c_region ?_
 refine l_pure S (p_eql rfl rfl) rfl rfl rfl ?_; clear S a; intro a S
 refine l_mv 1 S rfl ?_; clear S a; intro a S
 refine l_nil ?_
 refine e_then ?_
 refine c_cond (b := false) S rfl (fun h => by cases h) (fun _ => ?_)
 refine wp_seq ?_
 refine c_region ?_
 refine l_pure S (p_eql rfl rfl) rfl rfl rfl ?_; clear S a; intro a S
 refine l_mv 1 S rfl ?_; clear S a; intro a S
 refine l_nil ?_
 refine e_then ?_
 refine c_cond (b := false) S rfl (fun h => by cases h) (fun _ => ?_)
 refine wp_seq ?_
 refine c_region ?_
 refine l_pure S (p_eql rfl rfl) rfl rfl rfl ?_; clear S a; intro a S
 refine l_mv 1 S rfl ?_; clear S a; intro a S
 refine l_nil ?_
 refine e_then ?_
 refine c_cond (b := false) S rfl (fun h => by cases h) (fun _ => ?_)
 refine wp_seq ?_
 refine c_region ?_
 refine l_pure S (p_eql rfl rfl) rfl rfl rfl ?_; clear S a; intro a S
 refine l_mv 1 S rfl ?_; clear S a; intro a S
 refine l_nil ?_
 refine e_then ?_
 refine c_cond (b := false) S rfl (fun h => by cases h) (fun _ => ?_)
 refine wp_seq ?_
 refine c_region ?_
 refine l_pure S (p_eql rfl rfl) rfl rfl rfl ?_; clear S a; intro a S
 refine l_mv 1 S rfl ?_; clear S a; intro a S
 refine l_nil ?_
 refine e_then ?_
 refine c_cond (b := false) S rfl (fun h => by cases h) (fun _ => ?_)
 refine wp_seq ?_
 refine c_region ?_
 refine l_pure S (p_eql rfl rfl) rfl rfl rfl ?_; clear S a; intro a S
 refine l_mv 1 S rfl ?_; clear S a; intro a S
 refine l_nil ?_
 refine e_then ?_
 refine c_cond (b := true) S rfl (fun _ => ?_) (fun h => by cases h)
 refine wp_seq ?_
 refine wp_seq ?_
 refine c_region ?_
 refine l_mv 1 S rfl ?_; clear S a; intro a S
 refine l_nil ?_
 refine e_then ?_
 refine c_cond (b := false) S rfl (fun h => by cases h) (fun _ => ?_)
 refine wp_skip ?_
 refine e_then ?_
 refine wp_seq ?_
 refine c_region ?_
 refine l_pure S (p_fieldAddr rfl (fun w => fa24_1 w _ _)) rfl rfl rfl ?_; clear S a; intro a S
 refine l_read S H (r_load rfl List.mem_cons_self rfl (fun w hc => ld1 ag9 hc)) rfl rfl rfl ?_; clear S a; intro a S
 refine l_pure S (p_bld (ps := [(0, .tmp 91)]) rfl (bld77_0 _)) rfl rfl rfl ?_; clear S a; intro a S
 refine l_pure S (p_iface rfl (fun w => mi77 w _)) rfl rfl rfl ?_; clear S a; intro a S
 refine l_mv 2 S rfl ?_; clear S a; intro a S
 refine l_nil ?_
 refine e_then ?_
 refine wp_ret ?_
 refine e_in_ret ?_
 refine e_then_ret ?_
 replace H : HH B wb _ L0 := H.sub (.cons _ (.refl _))
 have eX : mw.mwire 59 sv nv dv Bo Fm Num St = 59 :: (wq.dec sv.size ++ [13, 10] ++ ([])) := by unfold mw.mwire; simp [ints_len, h0]
 exact r_ret2 S rfl rfl rfl ⟨_, [], rfl, ⟨77, _, _, _, rfl, fun w => me77 w _, fun w => nl77 w _, Tryz.func127, rfl, rfl, fun wb w0 B L0 hs go bp b l ls hE ht hT H hl => by rw [eX]; exact ms.chs0_ wb w0 B L0 go bp b l ls hE ht hT H hl sv (by omega) h0⟩, HH.app H (by simp)⟩
theorem m43_ (wb w0 : World) (B : Nat) (L0 : dc.Bk) (sv : ByteArray) (nv : Int) (dv : Nat) (Bo : Bool) (Fm : ByteArray) (Num : Int) (St : Bool) (hN : -9223372036854775808 ≤ nv ∧ nv ≤ 9223372036854775807) (hNum : -9223372036854775808 ≤ Num ∧ Num ≤ 9223372036854775807) (hS : sv.size ≤ 2000) (hFm : Fm.size ≤ 100) (hF : dv < 18446744073709551616) (ab : Bool)  (H : HH B wb w0 L0) : Calls Tryz.prog 12 #[.agg #[.int .i64 43, .string sv, .int .i64 nv, .float .f64 dv, .bool Bo, .string Fm, .int .i64 Num, .bool St], .bool ab] w0 fun e w' => ∃ (iv : Value) (ow : List (Nat × Obj)), e = .returned (.tuple #[iv, .bool true]) ∧ MRun iv ow (mw.mwire 43 sv nv dv Bo Fm Num St) ∧ HH B wb w' (ow ++ L0) := by
 refine c_enter (args := [.agg #[.int .i64 43, .string sv, .int .i64 nv, .float .f64 dv, .bool Bo, .string Fm, .int .i64 Num, .bool St], .bool ab]) (k := 100) Tryz.func12 rfl rfl rfl (fun a S => ?_)
 refine wp_seq ?_
 refine c_region ?_
 refine l_box (cs := #[.int .i64 43, .string sv, .int .i64 nv, .float .f64 dv, .bool Bo, .string Fm, .int .i64 Num, .bool St]) S H rfl rfl (fun w => bx) rfl rfl rfl ?_; clear S a H; intro g1 w a H S
 refine l_mv 2 S rfl ?_; clear S a; intro a S
 refine l_nil ?_
 refine e_then ?_
 refine wp_seq ?_
 refine wp_seq ?_
 refine c_region ?_
 refine l_pure S (p_fieldAddr rfl (fun w => fa24_0 w _ _)) rfl rfl rfl ?_; clear S a; intro a S
 refine l_read S H (r_load rfl List.mem_cons_self rfl (fun w hc => ld1 ag3 hc)) rfl rfl rfl ?_; clear S a; intro a S
 refine l_nil ?_
 refine e_then ?_
 refine wp_block ?_
 refine wp_seq ?_
 refine c_region ?_
 refine l_pure S (p_eql rfl rfl) rfl rfl rfl ?_; clear S a; intro a S
 refine l_mv 1 S rfl ?_; clear S a; intro a S
 refine l_nil ?_
 refine e_then ?_
 refine c_cond (b := false) S rfl (fun h => by cases h) (fun _ => ?_)
 refine wp_seq ?_
 refine c_region ?_
 refine l_pure S (p_eql rfl rfl) rfl rfl rfl ?_; clear S a; intro a S
 refine l_mv 1 S rfl ?_; clear S a; intro a S
 refine l_nil ?_
 refine e_then ?_
 refine c_cond (b := true) S rfl (fun _ => ?_) (fun h => by cases h)
 refine wp_seq ?_
 refine c_region ?_
 refine l_pure S (p_fieldAddr rfl (fun w => fa24_1 w _ _)) rfl rfl rfl ?_; clear S a; intro a S
 refine l_read S H (r_load rfl List.mem_cons_self rfl (fun w hc => ld1 ag9 hc)) rfl rfl rfl ?_; clear S a; intro a S
 refine l_pure S (p_bld (ps := [(0, .tmp 27)]) rfl (bld60_0 _)) rfl rfl rfl ?_; clear S a; intro a S
 refine l_pure S (p_iface rfl (fun w => mi60 w _)) rfl rfl rfl ?_; clear S a; intro a S
 refine l_mv 2 S rfl ?_; clear S a; intro a S
 refine l_nil ?_
 refine e_then ?_
 refine wp_ret ?_
 refine e_in_ret ?_
 refine e_then_ret ?_
 replace H : HH B wb _ L0 := H.sub (.cons _ (.refl _))
 have eX : mw.mwire 43 sv nv dv Bo Fm Num St = 43 :: (ints sv ++ [13, 10]) := by unfold mw.mwire; simp
 exact r_ret2 S rfl rfl rfl ⟨_, [], rfl, ⟨60, _, _, _, rfl, fun w => me60 w _, fun w => nl60 w _, Tryz.func109, rfl, rfl, fun wb w0 B L0 hs go bp b l ls hE ht hT H hl => by rw [eX]; exact ms.sst_ wb w0 B L0 go bp b l ls hE ht hT H hl sv (by omega)⟩, HH.app H (by simp)⟩
theorem m45_ (wb w0 : World) (B : Nat) (L0 : dc.Bk) (sv : ByteArray) (nv : Int) (dv : Nat) (Bo : Bool) (Fm : ByteArray) (Num : Int) (St : Bool) (hN : -9223372036854775808 ≤ nv ∧ nv ≤ 9223372036854775807) (hNum : -9223372036854775808 ≤ Num ∧ Num ≤ 9223372036854775807) (hS : sv.size ≤ 2000) (hFm : Fm.size ≤ 100) (hF : dv < 18446744073709551616) (ab : Bool)  (H : HH B wb w0 L0) : Calls Tryz.prog 12 #[.agg #[.int .i64 45, .string sv, .int .i64 nv, .float .f64 dv, .bool Bo, .string Fm, .int .i64 Num, .bool St], .bool ab] w0 fun e w' => ∃ (iv : Value) (ow : List (Nat × Obj)), e = .returned (.tuple #[iv, .bool true]) ∧ MRun iv ow (mw.mwire 45 sv nv dv Bo Fm Num St) ∧ HH B wb w' (ow ++ L0) := by
 refine c_enter (args := [.agg #[.int .i64 45, .string sv, .int .i64 nv, .float .f64 dv, .bool Bo, .string Fm, .int .i64 Num, .bool St], .bool ab]) (k := 100) Tryz.func12 rfl rfl rfl (fun a S => ?_)
 refine wp_seq ?_
 refine c_region ?_
 refine l_box (cs := #[.int .i64 45, .string sv, .int .i64 nv, .float .f64 dv, .bool Bo, .string Fm, .int .i64 Num, .bool St]) S H rfl rfl (fun w => bx) rfl rfl rfl ?_; clear S a H; intro g1 w a H S
 refine l_mv 2 S rfl ?_; clear S a; intro a S
 refine l_nil ?_
 refine e_then ?_
 refine wp_seq ?_
 refine wp_seq ?_
 refine c_region ?_
 refine l_pure S (p_fieldAddr rfl (fun w => fa24_0 w _ _)) rfl rfl rfl ?_; clear S a; intro a S
 refine l_read S H (r_load rfl List.mem_cons_self rfl (fun w hc => ld1 ag3 hc)) rfl rfl rfl ?_; clear S a; intro a S
 refine l_nil ?_
 refine e_then ?_
 refine wp_block ?_
 refine wp_seq ?_
 refine c_region ?_
 refine l_pure S (p_eql rfl rfl) rfl rfl rfl ?_; clear S a; intro a S
 refine l_mv 1 S rfl ?_; clear S a; intro a S
 refine l_nil ?_
 refine e_then ?_
 refine c_cond (b := false) S rfl (fun h => by cases h) (fun _ => ?_)
 refine wp_seq ?_
 refine c_region ?_
 refine l_pure S (p_eql rfl rfl) rfl rfl rfl ?_; clear S a; intro a S
 refine l_mv 1 S rfl ?_; clear S a; intro a S
 refine l_nil ?_
 refine e_then ?_
 refine c_cond (b := false) S rfl (fun h => by cases h) (fun _ => ?_)
 refine wp_seq ?_
 refine c_region ?_
 refine l_pure S (p_eql rfl rfl) rfl rfl rfl ?_; clear S a; intro a S
 refine l_mv 1 S rfl ?_; clear S a; intro a S
 refine l_nil ?_
 refine e_then ?_
 refine c_cond (b := true) S rfl (fun _ => ?_) (fun h => by cases h)
 refine wp_seq ?_
 refine c_region ?_
 refine l_pure S (p_fieldAddr rfl (fun w => fa24_1 w _ _)) rfl rfl rfl ?_; clear S a; intro a S
 refine l_read S H (r_load rfl List.mem_cons_self rfl (fun w hc => ld1 ag9 hc)) rfl rfl rfl ?_; clear S a; intro a S
 refine l_pure S (p_bld (ps := [(0, .tmp 33)]) rfl (bld61_0 _)) rfl rfl rfl ?_; clear S a; intro a S
 refine l_pure S (p_iface rfl (fun w => mi61 w _)) rfl rfl rfl ?_; clear S a; intro a S
 refine l_mv 2 S rfl ?_; clear S a; intro a S
 refine l_nil ?_
 refine e_then ?_
 refine wp_ret ?_
 refine e_in_ret ?_
 refine e_then_ret ?_
 replace H : HH B wb _ L0 := H.sub (.cons _ (.refl _))
 have eX : mw.mwire 45 sv nv dv Bo Fm Num St = 45 :: (ints sv ++ [13, 10]) := by unfold mw.mwire; simp
 exact r_ret2 S rfl rfl rfl ⟨_, [], rfl, ⟨61, _, _, _, rfl, fun w => me61 w _, fun w => nl61 w _, Tryz.func111, rfl, rfl, fun wb w0 B L0 hs go bp b l ls hE ht hT H hl => by rw [eX]; exact ms.sse_ wb w0 B L0 go bp b l ls hE ht hT H hl sv (by omega)⟩, HH.app H (by simp)⟩
theorem m58_ (wb w0 : World) (B : Nat) (L0 : dc.Bk) (sv : ByteArray) (nv : Int) (dv : Nat) (Bo : Bool) (Fm : ByteArray) (Num : Int) (St : Bool) (hN : -9223372036854775808 ≤ nv ∧ nv ≤ 9223372036854775807) (hNum : -9223372036854775808 ≤ Num ∧ Num ≤ 9223372036854775807) (hS : sv.size ≤ 2000) (hFm : Fm.size ≤ 100) (hF : dv < 18446744073709551616) (ab : Bool)  (H : HH B wb w0 L0) : Calls Tryz.prog 12 #[.agg #[.int .i64 58, .string sv, .int .i64 nv, .float .f64 dv, .bool Bo, .string Fm, .int .i64 Num, .bool St], .bool ab] w0 fun e w' => ∃ (iv : Value) (ow : List (Nat × Obj)), e = .returned (.tuple #[iv, .bool true]) ∧ MRun iv ow (mw.mwire 58 sv nv dv Bo Fm Num St) ∧ HH B wb w' (ow ++ L0) := by
 refine c_enter (args := [.agg #[.int .i64 58, .string sv, .int .i64 nv, .float .f64 dv, .bool Bo, .string Fm, .int .i64 Num, .bool St], .bool ab]) (k := 100) Tryz.func12 rfl rfl rfl (fun a S => ?_)
 refine wp_seq ?_
 refine c_region ?_
 refine l_box (cs := #[.int .i64 58, .string sv, .int .i64 nv, .float .f64 dv, .bool Bo, .string Fm, .int .i64 Num, .bool St]) S H rfl rfl (fun w => bx) rfl rfl rfl ?_; clear S a H; intro g1 w a H S
 refine l_mv 2 S rfl ?_; clear S a; intro a S
 refine l_nil ?_
 refine e_then ?_
 refine wp_seq ?_
 refine wp_seq ?_
 refine c_region ?_
 refine l_pure S (p_fieldAddr rfl (fun w => fa24_0 w _ _)) rfl rfl rfl ?_; clear S a; intro a S
 refine l_read S H (r_load rfl List.mem_cons_self rfl (fun w hc => ld1 ag3 hc)) rfl rfl rfl ?_; clear S a; intro a S
 refine l_nil ?_
 refine e_then ?_
 refine wp_block ?_
 refine wp_seq ?_
 refine c_region ?_
 refine l_pure S (p_eql rfl rfl) rfl rfl rfl ?_; clear S a; intro a S
 refine l_mv 1 S rfl ?_; clear S a; intro a S
 refine l_nil ?_
 refine e_then ?_
 refine c_cond (b := false) S rfl (fun h => by cases h) (fun _ => ?_)
 refine wp_seq ?_
 refine c_region ?_
 refine l_pure S (p_eql rfl rfl) rfl rfl rfl ?_; clear S a; intro a S
 refine l_mv 1 S rfl ?_; clear S a; intro a S
 refine l_nil ?_
 refine e_then ?_
 refine c_cond (b := false) S rfl (fun h => by cases h) (fun _ => ?_)
 refine wp_seq ?_
 refine c_region ?_
 refine l_pure S (p_eql rfl rfl) rfl rfl rfl ?_; clear S a; intro a S
 refine l_mv 1 S rfl ?_; clear S a; intro a S
 refine l_nil ?_
 refine e_then ?_
 refine c_cond (b := false) S rfl (fun h => by cases h) (fun _ => ?_)
 refine wp_seq ?_
 refine c_region ?_
 refine l_pure S (p_eql rfl rfl) rfl rfl rfl ?_; clear S a; intro a S
 refine l_mv 1 S rfl ?_; clear S a; intro a S
 refine l_nil ?_
 refine e_then ?_
 refine c_cond (b := true) S rfl (fun _ => ?_) (fun h => by cases h)
 refine wp_seq ?_
 refine c_region ?_
 refine l_pure S (p_fieldAddr rfl (fun w => fa24_2 w _ _)) rfl rfl rfl ?_; clear S a; intro a S
 refine l_read S H (r_load rfl List.mem_cons_self rfl (fun w hc => ld1 ag2 hc)) rfl rfl rfl ?_; clear S a; intro a S
 refine l_pure S (p_bld (ps := [(0, .tmp 39)]) rfl (bld63_0 _)) rfl rfl rfl ?_; clear S a; intro a S
 refine l_pure S (p_iface rfl (fun w => mi63 w _)) rfl rfl rfl ?_; clear S a; intro a S
 refine l_mv 2 S rfl ?_; clear S a; intro a S
 refine l_nil ?_
 refine e_then ?_
 refine wp_ret ?_
 refine e_in_ret ?_
 refine e_then_ret ?_
 replace H : HH B wb _ L0 := H.sub (.cons _ (.refl _))
 have eX : mw.mwire 58 sv nv dv Bo Fm Num St = 58 :: (mw.sdec nv ++ [13, 10]) := by unfold mw.mwire; simp
 exact r_ret2 S rfl rfl rfl ⟨_, [], rfl, ⟨63, _, _, _, rfl, fun w => me63 w _, fun w => nl63 w _, Tryz.func112, rfl, rfl, fun wb w0 B L0 hs go bp b l ls hE ht hT H hl => by rw [eX]; exact ms.num_ wb w0 B L0 go bp b l ls hE ht hT H hl nv hN⟩, HH.app H (by simp)⟩
theorem m95_ (wb w0 : World) (B : Nat) (L0 : dc.Bk) (sv : ByteArray) (nv : Int) (dv : Nat) (Bo : Bool) (Fm : ByteArray) (Num : Int) (St : Bool) (hN : -9223372036854775808 ≤ nv ∧ nv ≤ 9223372036854775807) (hNum : -9223372036854775808 ≤ Num ∧ Num ≤ 9223372036854775807) (hS : sv.size ≤ 2000) (hFm : Fm.size ≤ 100) (hF : dv < 18446744073709551616) (ab : Bool)  (H : HH B wb w0 L0) : Calls Tryz.prog 12 #[.agg #[.int .i64 95, .string sv, .int .i64 nv, .float .f64 dv, .bool Bo, .string Fm, .int .i64 Num, .bool St], .bool ab] w0 fun e w' => ∃ (iv : Value) (ow : List (Nat × Obj)), e = .returned (.tuple #[iv, .bool true]) ∧ MRun iv ow (mw.mwire 95 sv nv dv Bo Fm Num St) ∧ HH B wb w' (ow ++ L0) := by
 refine c_enter (args := [.agg #[.int .i64 95, .string sv, .int .i64 nv, .float .f64 dv, .bool Bo, .string Fm, .int .i64 Num, .bool St], .bool ab]) (k := 100) Tryz.func12 rfl rfl rfl (fun a S => ?_)
 refine wp_seq ?_
 refine c_region ?_
 refine l_box (cs := #[.int .i64 95, .string sv, .int .i64 nv, .float .f64 dv, .bool Bo, .string Fm, .int .i64 Num, .bool St]) S H rfl rfl (fun w => bx) rfl rfl rfl ?_; clear S a H; intro g1 w a H S
 refine l_mv 2 S rfl ?_; clear S a; intro a S
 refine l_nil ?_
 refine e_then ?_
 refine wp_seq ?_
 refine wp_seq ?_
 refine c_region ?_
 refine l_pure S (p_fieldAddr rfl (fun w => fa24_0 w _ _)) rfl rfl rfl ?_; clear S a; intro a S
 refine l_read S H (r_load rfl List.mem_cons_self rfl (fun w hc => ld1 ag3 hc)) rfl rfl rfl ?_; clear S a; intro a S
 refine l_nil ?_
 refine e_then ?_
 refine wp_block ?_
 refine wp_seq ?_
 refine c_region ?_
 refine l_pure S (p_eql rfl rfl) rfl rfl rfl ?_; clear S a; intro a S
 refine l_mv 1 S rfl ?_; clear S a; intro a S
 refine l_nil ?_
 refine e_then ?_
 refine c_cond (b := false) S rfl (fun h => by cases h) (fun _ => ?_)
 refine wp_seq ?_
 refine c_region ?_
 refine l_pure S (p_eql rfl rfl) rfl rfl rfl ?_; clear S a; intro a S
 refine l_mv 1 S rfl ?_; clear S a; intro a S
 refine l_nil ?_
 refine e_then ?_
 refine c_cond (b := false) S rfl (fun h => by cases h) (fun _ => ?_)
 refine wp_seq ?_
 refine c_region ?_
 refine l_pure S (p_eql rfl rfl) rfl rfl rfl ?_; clear S a; intro a S
 refine l_mv 1 S rfl ?_; clear S a; intro a S
 refine l_nil ?_
 refine e_then ?_
 refine c_cond (b := false) S rfl (fun h => by cases h) (fun _ => ?_)
 refine wp_seq ?_
 refine c_region ?_
 refine l_pure S (p_eql rfl rfl) rfl rfl rfl ?_; clear S a; intro a S
 refine l_mv 1 S rfl ?_; clear S a; intro a S
 refine l_nil ?_
 refine e_then ?_
 refine c_cond (b := false) S rfl (fun h => by cases h) (fun _ => ?_)
 refine wp_seq ?_
 refine c_region ?_
 refine l_pure S (p_eql rfl rfl) rfl rfl rfl ?_; clear S a; intro a S
 refine l_mv 1 S rfl ?_; clear S a; intro a S
 refine l_nil ?_
 refine e_then ?_
 refine c_cond (b := true) S rfl (fun _ => ?_) (fun h => by cases h)
 refine wp_seq ?_
 refine c_region ?_
 refine l_pure S (p_bld (ps := []) rfl (bld65_)) rfl rfl rfl ?_; clear S a; intro a S
 refine l_pure S (p_iface rfl (fun w => mi65 w)) rfl rfl rfl ?_; clear S a; intro a S
 refine l_mv 2 S rfl ?_; clear S a; intro a S
 refine l_nil ?_
 refine e_then ?_
 refine wp_ret ?_
 refine e_in_ret ?_
 refine e_then_ret ?_
 replace H : HH B wb _ L0 := H.sub (.cons _ (.refl _))
 have eX : mw.mwire 95 sv nv dv Bo Fm Num St = [95, 13, 10] := by unfold mw.mwire; simp
 exact r_ret2 S rfl rfl rfl ⟨_, [], rfl, ⟨65, _, _, _, rfl, fun w => me65 w _, fun w => nl65 w _, Tryz.func113, rfl, rfl, fun wb w0 B L0 hs go bp b l ls hE ht hT H hl => by rw [eX]; exact ms.nul_ wb w0 B L0 go bp b l ls hE ht hT H hl⟩, HH.app H (by simp)⟩
theorem m46_ (wb w0 : World) (B : Nat) (L0 : dc.Bk) (sv : ByteArray) (nv : Int) (dv : Nat) (Bo : Bool) (Fm : ByteArray) (Num : Int) (St : Bool) (hN : -9223372036854775808 ≤ nv ∧ nv ≤ 9223372036854775807) (hNum : -9223372036854775808 ≤ Num ∧ Num ≤ 9223372036854775807) (hS : sv.size ≤ 2000) (hFm : Fm.size ≤ 100) (hF : dv < 18446744073709551616) (ab : Bool)  (H : HH B wb w0 L0) : Calls Tryz.prog 12 #[.agg #[.int .i64 46, .string sv, .int .i64 nv, .float .f64 dv, .bool Bo, .string Fm, .int .i64 Num, .bool St], .bool ab] w0 fun e w' => ∃ (iv : Value) (ow : List (Nat × Obj)), e = .returned (.tuple #[iv, .bool true]) ∧ MRun iv ow (mw.mwire 46 sv nv dv Bo Fm Num St) ∧ HH B wb w' (ow ++ L0) := by
 refine c_enter (args := [.agg #[.int .i64 46, .string sv, .int .i64 nv, .float .f64 dv, .bool Bo, .string Fm, .int .i64 Num, .bool St], .bool ab]) (k := 100) Tryz.func12 rfl rfl rfl (fun a S => ?_)
 refine wp_seq ?_
 refine c_region ?_
 refine l_box (cs := #[.int .i64 46, .string sv, .int .i64 nv, .float .f64 dv, .bool Bo, .string Fm, .int .i64 Num, .bool St]) S H rfl rfl (fun w => bx) rfl rfl rfl ?_; clear S a H; intro g1 w a H S
 refine l_mv 2 S rfl ?_; clear S a; intro a S
 refine l_nil ?_
 refine e_then ?_
 refine wp_seq ?_
 refine wp_seq ?_
 refine c_region ?_
 refine l_pure S (p_fieldAddr rfl (fun w => fa24_0 w _ _)) rfl rfl rfl ?_; clear S a; intro a S
 refine l_read S H (r_load rfl List.mem_cons_self rfl (fun w hc => ld1 ag3 hc)) rfl rfl rfl ?_; clear S a; intro a S
 refine l_nil ?_
 refine e_then ?_
 refine wp_block ?_
 refine wp_seq ?_
 refine c_region ?_
 refine l_pure S (p_eql rfl rfl) rfl rfl rfl ?_; clear S a; intro a S
 refine l_mv 1 S rfl ?_; clear S a; intro a S
 refine l_nil ?_
 refine e_then ?_
 refine c_cond (b := false) S rfl (fun h => by cases h) (fun _ => ?_)
 refine wp_seq ?_
 refine c_region ?_
 refine l_pure S (p_eql rfl rfl) rfl rfl rfl ?_; clear S a; intro a S
 refine l_mv 1 S rfl ?_; clear S a; intro a S
 refine l_nil ?_
 refine e_then ?_
 refine c_cond (b := false) S rfl (fun h => by cases h) (fun _ => ?_)
 refine wp_seq ?_
 refine c_region ?_
 refine l_pure S (p_eql rfl rfl) rfl rfl rfl ?_; clear S a; intro a S
 refine l_mv 1 S rfl ?_; clear S a; intro a S
 refine l_nil ?_
 refine e_then ?_
 refine c_cond (b := false) S rfl (fun h => by cases h) (fun _ => ?_)
 refine wp_seq ?_
 refine c_region ?_
 refine l_pure S (p_eql rfl rfl) rfl rfl rfl ?_; clear S a; intro a S
 refine l_mv 1 S rfl ?_; clear S a; intro a S
 refine l_nil ?_
 refine e_then ?_
 refine c_cond (b := false) S rfl (fun h => by cases h) (fun _ => ?_)
 refine wp_seq ?_
 refine c_region ?_
 refine l_pure S (p_eql rfl rfl) rfl rfl rfl ?_; clear S a; intro a S
 refine l_mv 1 S rfl ?_; clear S a; intro a S
 refine l_nil ?_
 refine e_then ?_
 refine c_cond (b := false) S rfl (fun h => by cases h) (fun _ => ?_)
 refine wp_seq ?_
 refine c_region ?_
 refine l_pure S (p_eql rfl rfl) rfl rfl rfl ?_; clear S a; intro a S
 refine l_mv 1 S rfl ?_; clear S a; intro a S
 refine l_nil ?_
 refine e_then ?_
 refine c_cond (b := false) S rfl (fun h => by cases h) (fun _ => ?_)
 refine wp_seq ?_
 refine c_region ?_
 refine l_pure S (p_eql rfl rfl) rfl rfl rfl ?_; clear S a; intro a S
 refine l_mv 1 S rfl ?_; clear S a; intro a S
 refine l_nil ?_
 refine e_then ?_
 refine c_cond (b := false) S rfl (fun h => by cases h) (fun _ => ?_)
 refine wp_seq ?_
 refine c_region ?_
 refine l_pure S (p_eql rfl rfl) rfl rfl rfl ?_; clear S a; intro a S
 refine l_mv 1 S rfl ?_; clear S a; intro a S
 refine l_nil ?_
 refine e_then ?_
 refine c_cond (b := false) S rfl (fun h => by cases h) (fun _ => ?_)
 refine wp_seq ?_
 refine c_region ?_
 refine l_pure S (p_eql rfl rfl) rfl rfl rfl ?_; clear S a; intro a S
 refine l_mv 1 S rfl ?_; clear S a; intro a S
 refine l_nil ?_
 refine e_then ?_
 refine c_cond (b := false) S rfl (fun h => by cases h) (fun _ => ?_)
 refine wp_seq ?_
 refine c_region ?_
 refine l_pure S (p_eql rfl rfl) rfl rfl rfl ?_; clear S a; intro a S
 refine l_mv 1 S rfl ?_; clear S a; intro a S
 refine l_nil ?_
 refine e_then ?_
 refine c_cond (b := false) S rfl (fun h => by cases h) (fun _ => ?_)
 refine wp_seq ?_
 refine c_region ?_
 refine l_pure S (p_eql rfl rfl) rfl rfl rfl ?_; clear S a; intro a S
 refine l_mv 1 S rfl ?_; clear S a; intro a S
 refine l_nil ?_
 refine e_then ?_
 refine c_cond (b := true) S rfl (fun _ => ?_) (fun h => by cases h)
 refine wp_seq ?_
 refine c_region ?_
 refine l_pure S (p_bld (ps := []) rfl (bld78_)) rfl rfl rfl ?_; clear S a; intro a S
 refine l_pure S (p_iface rfl (fun w => mi78 w)) rfl rfl rfl ?_; clear S a; intro a S
 refine l_mv 2 S rfl ?_; clear S a; intro a S
 refine l_nil ?_
 refine e_then ?_
 refine wp_ret ?_
 refine e_in_ret ?_
 refine e_then_ret ?_
 replace H : HH B wb _ L0 := H.sub (.cons _ (.refl _))
 have eX : mw.mwire 46 sv nv dv Bo Fm Num St = [46, 13, 10] := by unfold mw.mwire; simp
 exact r_ret2 S rfl rfl rfl ⟨_, [], rfl, ⟨78, _, _, _, rfl, fun w => me78 w _, fun w => nl78 w _, Tryz.func128, rfl, rfl, fun wb w0 B L0 hs go bp b l ls hE ht hT H hl => by rw [eX]; exact ms.end_ wb w0 B L0 go bp b l ls hE ht hT H hl⟩, HH.app H (by simp)⟩
theorem m44_ (wb w0 : World) (B : Nat) (L0 : dc.Bk) (sv : ByteArray) (nv : Int) (dv : Nat) (Bo : Bool) (Fm : ByteArray) (Num : Int) (St : Bool) (hN : -9223372036854775808 ≤ nv ∧ nv ≤ 9223372036854775807) (hNum : -9223372036854775808 ≤ Num ∧ Num ≤ 9223372036854775807) (hS : sv.size ≤ 2000) (hFm : Fm.size ≤ 100) (hF : dv < 18446744073709551616) (ab : Bool)  (H : HH B wb w0 L0) : Calls Tryz.prog 12 #[.agg #[.int .i64 44, .string sv, .int .i64 nv, .float .f64 dv, .bool Bo, .string Fm, .int .i64 Num, .bool St], .bool ab] w0 fun e w' => ∃ (iv : Value) (ow : List (Nat × Obj)), e = .returned (.tuple #[iv, .bool true]) ∧ MRun iv ow (mw.mwire 44 sv nv dv Bo Fm Num St) ∧ HH B wb w' (ow ++ L0) := by
 refine c_enter (args := [.agg #[.int .i64 44, .string sv, .int .i64 nv, .float .f64 dv, .bool Bo, .string Fm, .int .i64 Num, .bool St], .bool ab]) (k := 100) Tryz.func12 rfl rfl rfl (fun a S => ?_)
 refine wp_seq ?_
 refine c_region ?_
 refine l_box (cs := #[.int .i64 44, .string sv, .int .i64 nv, .float .f64 dv, .bool Bo, .string Fm, .int .i64 Num, .bool St]) S H rfl rfl (fun w => bx) rfl rfl rfl ?_; clear S a H; intro g1 w a H S
 refine l_mv 2 S rfl ?_; clear S a; intro a S
 refine l_nil ?_
 refine e_then ?_
 refine wp_seq ?_
 refine wp_seq ?_
 refine c_region ?_
 refine l_pure S (p_fieldAddr rfl (fun w => fa24_0 w _ _)) rfl rfl rfl ?_; clear S a; intro a S
 refine l_read S H (r_load rfl List.mem_cons_self rfl (fun w hc => ld1 ag3 hc)) rfl rfl rfl ?_; clear S a; intro a S
 refine l_nil ?_
 refine e_then ?_
 refine wp_block ?_
 refine wp_seq ?_
 refine c_region ?_
 refine l_pure S (p_eql rfl rfl) rfl rfl rfl ?_; clear S a; intro a S
 refine l_mv 1 S rfl ?_; clear S a; intro a S
 refine l_nil ?_
 refine e_then ?_
 refine c_cond (b := false) S rfl (fun h => by cases h) (fun _ => ?_)
 refine wp_seq ?_
 refine c_region ?_
 refine l_pure S (p_eql rfl rfl) rfl rfl rfl ?_; clear S a; intro a S
 refine l_mv 1 S rfl ?_; clear S a; intro a S
 refine l_nil ?_
 refine e_then ?_
 refine c_cond (b := false) S rfl (fun h => by cases h) (fun _ => ?_)
 refine wp_seq ?_
 refine c_region ?_
 refine l_pure S (p_eql rfl rfl) rfl rfl rfl ?_; clear S a; intro a S
 refine l_mv 1 S rfl ?_; clear S a; intro a S
 refine l_nil ?_
 refine e_then ?_
 refine c_cond (b := false) S rfl (fun h => by cases h) (fun _ => ?_)
 refine wp_seq ?_
 refine c_region ?_
 refine l_pure S (p_eql rfl rfl) rfl rfl rfl ?_; clear S a; intro a S
 refine l_mv 1 S rfl ?_; clear S a; intro a S
 refine l_nil ?_
 refine e_then ?_
 refine c_cond (b := false) S rfl (fun h => by cases h) (fun _ => ?_)
 refine wp_seq ?_
 refine c_region ?_
 refine l_pure S (p_eql rfl rfl) rfl rfl rfl ?_; clear S a; intro a S
 refine l_mv 1 S rfl ?_; clear S a; intro a S
 refine l_nil ?_
 refine e_then ?_
 refine c_cond (b := false) S rfl (fun h => by cases h) (fun _ => ?_)
 refine wp_seq ?_
 refine c_region ?_
 refine l_pure S (p_eql rfl rfl) rfl rfl rfl ?_; clear S a; intro a S
 refine l_mv 1 S rfl ?_; clear S a; intro a S
 refine l_nil ?_
 refine e_then ?_
 refine c_cond (b := true) S rfl (fun _ => ?_) (fun h => by cases h)
 refine wp_seq ?_
 refine c_region ?_
 refine l_pure S (p_fieldAddr rfl (fun w => fa24_3 w _ _)) rfl rfl rfl ?_; clear S a; intro a S
 refine l_read S H (r_load rfl List.mem_cons_self rfl (fun w hc => ld1 ag22 hc)) rfl rfl rfl ?_; clear S a; intro a S
 refine l_pure S (p_bld (ps := [(0, .tmp 49)]) rfl (bld67_0 _)) rfl rfl rfl ?_; clear S a; intro a S
 refine l_pure S (p_iface rfl (fun w => mi67 w _)) rfl rfl rfl ?_; clear S a; intro a S
 refine l_mv 2 S rfl ?_; clear S a; intro a S
 refine l_nil ?_
 refine e_then ?_
 refine wp_ret ?_
 refine e_in_ret ?_
 refine e_then_ret ?_
 replace H : HH B wb _ L0 := H.sub (.cons _ (.refl _))
 have eX : mw.mwire 44 sv nv dv Bo Fm Num St = 44 :: (mw.dtext dv ++ [13, 10]) := by unfold mw.mwire; simp
 exact r_ret2 S rfl rfl rfl ⟨_, [], rfl, ⟨67, _, _, _, rfl, fun w => me67 w _, fun w => nl67 w _, Tryz.func115, rfl, rfl, fun wb w0 B L0 hs go bp b l ls hE ht hT H hl => by rw [eX]; exact ms.dbl_ wb w0 B L0 go bp b l ls hE ht hT H hl dv hF⟩, HH.app H (by simp)⟩
theorem m35bt_ (wb w0 : World) (B : Nat) (L0 : dc.Bk) (sv : ByteArray) (nv : Int) (dv : Nat) (Fm : ByteArray) (Num : Int) (St : Bool) (hN : -9223372036854775808 ≤ nv ∧ nv ≤ 9223372036854775807) (hNum : -9223372036854775808 ≤ Num ∧ Num ≤ 9223372036854775807) (hS : sv.size ≤ 2000) (hFm : Fm.size ≤ 100) (hF : dv < 18446744073709551616) (ab : Bool)  (H : HH B wb w0 L0) : Calls Tryz.prog 12 #[.agg #[.int .i64 35, .string sv, .int .i64 nv, .float .f64 dv, .bool true, .string Fm, .int .i64 Num, .bool St], .bool ab] w0 fun e w' => ∃ (iv : Value) (ow : List (Nat × Obj)), e = .returned (.tuple #[iv, .bool true]) ∧ MRun iv ow (mw.mwire 35 sv nv dv true Fm Num St) ∧ HH B wb w' (ow ++ L0) := by
 refine c_enter (args := [.agg #[.int .i64 35, .string sv, .int .i64 nv, .float .f64 dv, .bool true, .string Fm, .int .i64 Num, .bool St], .bool ab]) (k := 100) Tryz.func12 rfl rfl rfl (fun a S => ?_)
 refine wp_seq ?_
 refine c_region ?_
 refine l_box (cs := #[.int .i64 35, .string sv, .int .i64 nv, .float .f64 dv, .bool true, .string Fm, .int .i64 Num, .bool St]) S H rfl rfl (fun w => bx) rfl rfl rfl ?_; clear S a H; intro g1 w a H S
 refine l_mv 2 S rfl ?_; clear S a; intro a S
 refine l_nil ?_
 refine e_then ?_
 refine wp_seq ?_
 refine wp_seq ?_
 refine c_region ?_
 refine l_pure S (p_fieldAddr rfl (fun w => fa24_0 w _ _)) rfl rfl rfl ?_; clear S a; intro a S
 refine l_read S H (r_load rfl List.mem_cons_self rfl (fun w hc => ld1 ag3 hc)) rfl rfl rfl ?_; clear S a; intro a S
 refine l_nil ?_
 refine e_then ?_
 refine wp_block ?_
 refine wp_seq ?_
 refine c_region ?_
 refine l_pure S (p_eql rfl rfl) rfl rfl rfl ?_; clear S a; intro a S
 refine l_mv 1 S rfl ?_; clear S a; intro a S
 refine l_nil ?_
 refine e_then ?_
 refine c_cond (b := false) S rfl (fun h => by cases h) (fun _ => ?_)
 refine wp_seq ?_
 refine c_region ?_
 refine l_pure S (p_eql rfl rfl) rfl rfl rfl ?_; clear S a; intro a S
 refine l_mv 1 S rfl ?_; clear S a; intro a S
 refine l_nil ?_
 refine e_then ?_
 refine c_cond (b := false) S rfl (fun h => by cases h) (fun _ => ?_)
 refine wp_seq ?_
 refine c_region ?_
 refine l_pure S (p_eql rfl rfl) rfl rfl rfl ?_; clear S a; intro a S
 refine l_mv 1 S rfl ?_; clear S a; intro a S
 refine l_nil ?_
 refine e_then ?_
 refine c_cond (b := false) S rfl (fun h => by cases h) (fun _ => ?_)
 refine wp_seq ?_
 refine c_region ?_
 refine l_pure S (p_eql rfl rfl) rfl rfl rfl ?_; clear S a; intro a S
 refine l_mv 1 S rfl ?_; clear S a; intro a S
 refine l_nil ?_
 refine e_then ?_
 refine c_cond (b := false) S rfl (fun h => by cases h) (fun _ => ?_)
 refine wp_seq ?_
 refine c_region ?_
 refine l_pure S (p_eql rfl rfl) rfl rfl rfl ?_; clear S a; intro a S
 refine l_mv 1 S rfl ?_; clear S a; intro a S
 refine l_nil ?_
 refine e_then ?_
 refine c_cond (b := false) S rfl (fun h => by cases h) (fun _ => ?_)
 refine wp_seq ?_
 refine c_region ?_
 refine l_pure S (p_eql rfl rfl) rfl rfl rfl ?_; clear S a; intro a S
 refine l_mv 1 S rfl ?_; clear S a; intro a S
 refine l_nil ?_
 refine e_then ?_
 refine c_cond (b := false) S rfl (fun h => by cases h) (fun _ => ?_)
 refine wp_seq ?_
 refine c_region ?_
 refine l_pure S (p_eql rfl rfl) rfl rfl rfl ?_; clear S a; intro a S
 refine l_mv 1 S rfl ?_; clear S a; intro a S
 refine l_nil ?_
 refine e_then ?_
 refine c_cond (b := true) S rfl (fun _ => ?_) (fun h => by cases h)
 refine wp_seq ?_
 refine c_region ?_
 refine l_pure S (p_fieldAddr rfl (fun w => fa24_4 w _ _)) rfl rfl rfl ?_; clear S a; intro a S
 refine l_read S H (r_load rfl List.mem_cons_self rfl (fun w hc => ld1 ag4 hc)) rfl rfl rfl ?_; clear S a; intro a S
 refine l_pure S (p_bld (ps := [(0, .tmp 55)]) rfl (bld69_0 _)) rfl rfl rfl ?_; clear S a; intro a S
 refine l_pure S (p_iface rfl (fun w => mi69 w _)) rfl rfl rfl ?_; clear S a; intro a S
 refine l_mv 2 S rfl ?_; clear S a; intro a S
 refine l_nil ?_
 refine e_then ?_
 refine wp_ret ?_
 refine e_in_ret ?_
 refine e_then_ret ?_
 replace H : HH B wb _ L0 := H.sub (.cons _ (.refl _))
 have eX : mw.mwire 35 sv nv dv true Fm Num St = [35, 116, 13, 10] := by unfold mw.mwire; simp
 exact r_ret2 S rfl rfl rfl ⟨_, [], rfl, ⟨69, _, _, _, rfl, fun w => me69 w _, fun w => nl69 w _, Tryz.func118, rfl, rfl, fun wb w0 B L0 hs go bp b l ls hE ht hT H hl => by rw [eX]; exact ms.bolt_ wb w0 B L0 go bp b l ls hE ht hT H hl⟩, HH.app H (by simp)⟩
theorem m35bf_ (wb w0 : World) (B : Nat) (L0 : dc.Bk) (sv : ByteArray) (nv : Int) (dv : Nat) (Fm : ByteArray) (Num : Int) (St : Bool) (hN : -9223372036854775808 ≤ nv ∧ nv ≤ 9223372036854775807) (hNum : -9223372036854775808 ≤ Num ∧ Num ≤ 9223372036854775807) (hS : sv.size ≤ 2000) (hFm : Fm.size ≤ 100) (hF : dv < 18446744073709551616) (ab : Bool)  (H : HH B wb w0 L0) : Calls Tryz.prog 12 #[.agg #[.int .i64 35, .string sv, .int .i64 nv, .float .f64 dv, .bool false, .string Fm, .int .i64 Num, .bool St], .bool ab] w0 fun e w' => ∃ (iv : Value) (ow : List (Nat × Obj)), e = .returned (.tuple #[iv, .bool true]) ∧ MRun iv ow (mw.mwire 35 sv nv dv false Fm Num St) ∧ HH B wb w' (ow ++ L0) := by
 refine c_enter (args := [.agg #[.int .i64 35, .string sv, .int .i64 nv, .float .f64 dv, .bool false, .string Fm, .int .i64 Num, .bool St], .bool ab]) (k := 100) Tryz.func12 rfl rfl rfl (fun a S => ?_)
 refine wp_seq ?_
 refine c_region ?_
 refine l_box (cs := #[.int .i64 35, .string sv, .int .i64 nv, .float .f64 dv, .bool false, .string Fm, .int .i64 Num, .bool St]) S H rfl rfl (fun w => bx) rfl rfl rfl ?_; clear S a H; intro g1 w a H S
 refine l_mv 2 S rfl ?_; clear S a; intro a S
 refine l_nil ?_
 refine e_then ?_
 refine wp_seq ?_
 refine wp_seq ?_
 refine c_region ?_
 refine l_pure S (p_fieldAddr rfl (fun w => fa24_0 w _ _)) rfl rfl rfl ?_; clear S a; intro a S
 refine l_read S H (r_load rfl List.mem_cons_self rfl (fun w hc => ld1 ag3 hc)) rfl rfl rfl ?_; clear S a; intro a S
 refine l_nil ?_
 refine e_then ?_
 refine wp_block ?_
 refine wp_seq ?_
 refine c_region ?_
 refine l_pure S (p_eql rfl rfl) rfl rfl rfl ?_; clear S a; intro a S
 refine l_mv 1 S rfl ?_; clear S a; intro a S
 refine l_nil ?_
 refine e_then ?_
 refine c_cond (b := false) S rfl (fun h => by cases h) (fun _ => ?_)
 refine wp_seq ?_
 refine c_region ?_
 refine l_pure S (p_eql rfl rfl) rfl rfl rfl ?_; clear S a; intro a S
 refine l_mv 1 S rfl ?_; clear S a; intro a S
 refine l_nil ?_
 refine e_then ?_
 refine c_cond (b := false) S rfl (fun h => by cases h) (fun _ => ?_)
 refine wp_seq ?_
 refine c_region ?_
 refine l_pure S (p_eql rfl rfl) rfl rfl rfl ?_; clear S a; intro a S
 refine l_mv 1 S rfl ?_; clear S a; intro a S
 refine l_nil ?_
 refine e_then ?_
 refine c_cond (b := false) S rfl (fun h => by cases h) (fun _ => ?_)
 refine wp_seq ?_
 refine c_region ?_
 refine l_pure S (p_eql rfl rfl) rfl rfl rfl ?_; clear S a; intro a S
 refine l_mv 1 S rfl ?_; clear S a; intro a S
 refine l_nil ?_
 refine e_then ?_
 refine c_cond (b := false) S rfl (fun h => by cases h) (fun _ => ?_)
 refine wp_seq ?_
 refine c_region ?_
 refine l_pure S (p_eql rfl rfl) rfl rfl rfl ?_; clear S a; intro a S
 refine l_mv 1 S rfl ?_; clear S a; intro a S
 refine l_nil ?_
 refine e_then ?_
 refine c_cond (b := false) S rfl (fun h => by cases h) (fun _ => ?_)
 refine wp_seq ?_
 refine c_region ?_
 refine l_pure S (p_eql rfl rfl) rfl rfl rfl ?_; clear S a; intro a S
 refine l_mv 1 S rfl ?_; clear S a; intro a S
 refine l_nil ?_
 refine e_then ?_
 refine c_cond (b := false) S rfl (fun h => by cases h) (fun _ => ?_)
 refine wp_seq ?_
 refine c_region ?_
 refine l_pure S (p_eql rfl rfl) rfl rfl rfl ?_; clear S a; intro a S
 refine l_mv 1 S rfl ?_; clear S a; intro a S
 refine l_nil ?_
 refine e_then ?_
 refine c_cond (b := true) S rfl (fun _ => ?_) (fun h => by cases h)
 refine wp_seq ?_
 refine c_region ?_
 refine l_pure S (p_fieldAddr rfl (fun w => fa24_4 w _ _)) rfl rfl rfl ?_; clear S a; intro a S
 refine l_read S H (r_load rfl List.mem_cons_self rfl (fun w hc => ld1 ag4 hc)) rfl rfl rfl ?_; clear S a; intro a S
 refine l_pure S (p_bld (ps := [(0, .tmp 55)]) rfl (bld69_0 _)) rfl rfl rfl ?_; clear S a; intro a S
 refine l_pure S (p_iface rfl (fun w => mi69 w _)) rfl rfl rfl ?_; clear S a; intro a S
 refine l_mv 2 S rfl ?_; clear S a; intro a S
 refine l_nil ?_
 refine e_then ?_
 refine wp_ret ?_
 refine e_in_ret ?_
 refine e_then_ret ?_
 replace H : HH B wb _ L0 := H.sub (.cons _ (.refl _))
 have eX : mw.mwire 35 sv nv dv false Fm Num St = [35, 102, 13, 10] := by unfold mw.mwire; simp
 exact r_ret2 S rfl rfl rfl ⟨_, [], rfl, ⟨69, _, _, _, rfl, fun w => me69 w _, fun w => nl69 w _, Tryz.func118, rfl, rfl, fun wb w0 B L0 hs go bp b l ls hE ht hT H hl => by rw [eX]; exact ms.bolf_ wb w0 B L0 go bp b l ls hE ht hT H hl⟩, HH.app H (by simp)⟩
theorem m33_ (wb w0 : World) (B : Nat) (L0 : dc.Bk) (sv : ByteArray) (nv : Int) (dv : Nat) (Bo : Bool) (Fm : ByteArray) (Num : Int) (St : Bool) (hN : -9223372036854775808 ≤ nv ∧ nv ≤ 9223372036854775807) (hNum : -9223372036854775808 ≤ Num ∧ Num ≤ 9223372036854775807) (hS : sv.size ≤ 2000) (hFm : Fm.size ≤ 100) (hF : dv < 18446744073709551616) (ab : Bool)  (H : HH B wb w0 L0) : Calls Tryz.prog 12 #[.agg #[.int .i64 33, .string sv, .int .i64 nv, .float .f64 dv, .bool Bo, .string Fm, .int .i64 Num, .bool St], .bool ab] w0 fun e w' => ∃ (iv : Value) (ow : List (Nat × Obj)), e = .returned (.tuple #[iv, .bool true]) ∧ MRun iv ow (mw.mwire 33 sv nv dv Bo Fm Num St) ∧ HH B wb w' (ow ++ L0) := by
 refine c_enter (args := [.agg #[.int .i64 33, .string sv, .int .i64 nv, .float .f64 dv, .bool Bo, .string Fm, .int .i64 Num, .bool St], .bool ab]) (k := 100) Tryz.func12 rfl rfl rfl (fun a S => ?_)
 refine wp_seq ?_
 refine c_region ?_
 refine l_box (cs := #[.int .i64 33, .string sv, .int .i64 nv, .float .f64 dv, .bool Bo, .string Fm, .int .i64 Num, .bool St]) S H rfl rfl (fun w => bx) rfl rfl rfl ?_; clear S a H; intro g1 w a H S
 refine l_mv 2 S rfl ?_; clear S a; intro a S
 refine l_nil ?_
 refine e_then ?_
 refine wp_seq ?_
 refine wp_seq ?_
 refine c_region ?_
 refine l_pure S (p_fieldAddr rfl (fun w => fa24_0 w _ _)) rfl rfl rfl ?_; clear S a; intro a S
 refine l_read S H (r_load rfl List.mem_cons_self rfl (fun w hc => ld1 ag3 hc)) rfl rfl rfl ?_; clear S a; intro a S
 refine l_nil ?_
 refine e_then ?_
 refine wp_block ?_
 refine wp_seq ?_
 refine c_region ?_
 refine l_pure S (p_eql rfl rfl) rfl rfl rfl ?_; clear S a; intro a S
 refine l_mv 1 S rfl ?_; clear S a; intro a S
 refine l_nil ?_
 refine e_then ?_
 refine c_cond (b := false) S rfl (fun h => by cases h) (fun _ => ?_)
 refine wp_seq ?_
 refine c_region ?_
 refine l_pure S (p_eql rfl rfl) rfl rfl rfl ?_; clear S a; intro a S
 refine l_mv 1 S rfl ?_; clear S a; intro a S
 refine l_nil ?_
 refine e_then ?_
 refine c_cond (b := false) S rfl (fun h => by cases h) (fun _ => ?_)
 refine wp_seq ?_
 refine c_region ?_
 refine l_pure S (p_eql rfl rfl) rfl rfl rfl ?_; clear S a; intro a S
 refine l_mv 1 S rfl ?_; clear S a; intro a S
 refine l_nil ?_
 refine e_then ?_
 refine c_cond (b := false) S rfl (fun h => by cases h) (fun _ => ?_)
 refine wp_seq ?_
 refine c_region ?_
 refine l_pure S (p_eql rfl rfl) rfl rfl rfl ?_; clear S a; intro a S
 refine l_mv 1 S rfl ?_; clear S a; intro a S
 refine l_nil ?_
 refine e_then ?_
 refine c_cond (b := false) S rfl (fun h => by cases h) (fun _ => ?_)
 refine wp_seq ?_
 refine c_region ?_
 refine l_pure S (p_eql rfl rfl) rfl rfl rfl ?_; clear S a; intro a S
 refine l_mv 1 S rfl ?_; clear S a; intro a S
 refine l_nil ?_
 refine e_then ?_
 refine c_cond (b := false) S rfl (fun h => by cases h) (fun _ => ?_)
 refine wp_seq ?_
 refine c_region ?_
 refine l_pure S (p_eql rfl rfl) rfl rfl rfl ?_; clear S a; intro a S
 refine l_mv 1 S rfl ?_; clear S a; intro a S
 refine l_nil ?_
 refine e_then ?_
 refine c_cond (b := false) S rfl (fun h => by cases h) (fun _ => ?_)
 refine wp_seq ?_
 refine c_region ?_
 refine l_pure S (p_eql rfl rfl) rfl rfl rfl ?_; clear S a; intro a S
 refine l_mv 1 S rfl ?_; clear S a; intro a S
 refine l_nil ?_
 refine e_then ?_
 refine c_cond (b := false) S rfl (fun h => by cases h) (fun _ => ?_)
 refine wp_seq ?_
 refine c_region ?_
 refine l_pure S (p_eql rfl rfl) rfl rfl rfl ?_; clear S a; intro a S
 refine l_mv 1 S rfl ?_; clear S a; intro a S
 refine l_nil ?_
 refine e_then ?_
 refine c_cond (b := true) S rfl (fun _ => ?_) (fun h => by cases h)
 refine wp_seq ?_
 refine c_region ?_
 refine l_pure S (p_fieldAddr rfl (fun w => fa24_1 w _ _)) rfl rfl rfl ?_; clear S a; intro a S
 refine l_read S H (r_load rfl List.mem_cons_self rfl (fun w hc => ld1 ag9 hc)) rfl rfl rfl ?_; clear S a; intro a S
 refine l_bytesOwn (s := sv) S H rfl rfl Tryz.underlying9 Tryz.underlying34 Tryz.underlying5 rfl rfl rfl ?_; clear S a H; intro v_ ow19 w a how19 H S
 rw [← ints_len sv] at how19
 obtain ⟨Aow19, cow19, rfl, _⟩ := how19.slice
 refine l_pure S (p_bld (ps := [(0, .tmp 62)]) rfl (bld71_0 _ _ _)) rfl rfl rfl ?_; clear S a; intro a S
 refine l_pure S (p_iface rfl (fun w => mi71 w _ _ _)) rfl rfl rfl ?_; clear S a; intro a S
 refine l_mv 2 S rfl ?_; clear S a; intro a S
 refine l_nil ?_
 refine e_then ?_
 refine wp_ret ?_
 refine e_in_ret ?_
 refine e_then_ret ?_
 replace H : HH B wb _ (ow19 ++ L0) := H.sub (List.Sublist.append (.refl _) (.cons _ (.refl _)))
 have eX : mw.mwire 33 sv nv dv Bo Fm Num St = mw.bl 33 (ints sv).length (ints sv) := by unfold mw.mwire; simp [ints_len]
 exact r_ret2 S rfl rfl rfl ⟨_, ow19, rfl, ⟨71, _, _, _, rfl, fun w => me71 w _, fun w => nl71 w _, Tryz.func122, rfl, rfl, fun wb w0 B L0 hs go bp b l ls hE ht hT H hl => by rw [eX]; exact ms.ber_ wb w0 B L0 go bp b l ls hE ht hT H hl Aow19 cow19 (ints sv) ow19 how19 (fun p hp => hs p (by simp [hp])) (by rw [ints_len]; omega)⟩, HH.app H (by simp)⟩
theorem m42_ (wb w0 : World) (B : Nat) (L0 : dc.Bk) (sv : ByteArray) (nv : Int) (dv : Nat) (Bo : Bool) (Fm : ByteArray) (Num : Int) (St : Bool) (hN : -9223372036854775808 ≤ nv ∧ nv ≤ 9223372036854775807) (hNum : -9223372036854775808 ≤ Num ∧ Num ≤ 9223372036854775807) (hS : sv.size ≤ 2000) (hFm : Fm.size ≤ 100) (hF : dv < 18446744073709551616) (ab : Bool) (H : HH B wb w0 L0) : Calls Tryz.prog 12 #[.agg #[.int .i64 42, .string sv, .int .i64 nv, .float .f64 dv, .bool Bo, .string Fm, .int .i64 Num, .bool St], .bool ab] w0 fun e w' => ∃ (iv : Value) (ow : List (Nat × Obj)), e = .returned (.tuple #[iv, .bool true]) ∧ MRun iv ow (mw.mwire 42 sv nv dv Bo Fm Num St) ∧ HH B wb w' (ow ++ L0) := by
 refine c_enter (args := [.agg #[.int .i64 42, .string sv, .int .i64 nv, .float .f64 dv, .bool Bo, .string Fm, .int .i64 Num, .bool St], .bool ab]) (k := 100) Tryz.func12 rfl rfl rfl (fun a S => ?_)
 refine wp_seq ?_
 refine c_region ?_
 refine l_box (cs := #[.int .i64 42, .string sv, .int .i64 nv, .float .f64 dv, .bool Bo, .string Fm, .int .i64 Num, .bool St]) S H rfl rfl (fun w => bx) rfl rfl rfl ?_; clear S a H; intro g1 w a H S
 refine l_mv 2 S rfl ?_; clear S a; intro a S
 refine l_nil ?_
 refine e_then ?_
 refine wp_seq ?_
 refine wp_seq ?_
 refine c_region ?_
 refine l_pure S (p_fieldAddr rfl (fun w => fa24_0 w _ _)) rfl rfl rfl ?_; clear S a; intro a S
 refine l_read S H (r_load rfl List.mem_cons_self rfl (fun w hc => ld1 ag3 hc)) rfl rfl rfl ?_; clear S a; intro a S
 refine l_nil ?_
 refine e_then ?_
 refine wp_block ?_
 refine wp_seq ?_
 refine c_region ?_
 refine l_pure S (p_eql rfl rfl) rfl rfl rfl ?_; clear S a; intro a S
 refine l_mv 1 S rfl ?_; clear S a; intro a S
 refine l_nil ?_
 refine e_then ?_
 refine c_cond (b := false) S rfl (fun h => by cases h) (fun _ => ?_)
 refine wp_seq ?_
 refine c_region ?_
 refine l_pure S (p_eql rfl rfl) rfl rfl rfl ?_; clear S a; intro a S
 refine l_mv 1 S rfl ?_; clear S a; intro a S
 refine l_nil ?_
 refine e_then ?_
 refine c_cond (b := false) S rfl (fun h => by cases h) (fun _ => ?_)
 refine wp_seq ?_
 refine c_region ?_
 refine l_pure S (p_eql rfl rfl) rfl rfl rfl ?_; clear S a; intro a S
 refine l_mv 1 S rfl ?_; clear S a; intro a S
 refine l_nil ?_
 refine e_then ?_
 refine c_cond (b := false) S rfl (fun h => by cases h) (fun _ => ?_)
 refine wp_seq ?_
 refine c_region ?_
 refine l_pure S (p_eql rfl rfl) rfl rfl rfl ?_; clear S a; intro a S
 refine l_mv 1 S rfl ?_; clear S a; intro a S
 refine l_nil ?_
 refine e_then ?_
 refine c_cond (b := false) S rfl (fun h => by cases h) (fun _ => ?_)
 refine wp_seq ?_
 refine c_region ?_
 refine l_pure S (p_eql rfl rfl) rfl rfl rfl ?_; clear S a; intro a S
 refine l_mv 1 S rfl ?_; clear S a; intro a S
 refine l_nil ?_
 refine e_then ?_
 refine c_cond (b := false) S rfl (fun h => by cases h) (fun _ => ?_)
 refine wp_seq ?_
 refine c_region ?_
 refine l_pure S (p_eql rfl rfl) rfl rfl rfl ?_; clear S a; intro a S
 refine l_mv 1 S rfl ?_; clear S a; intro a S
 refine l_nil ?_
 refine e_then ?_
 refine c_cond (b := false) S rfl (fun h => by cases h) (fun _ => ?_)
 refine wp_seq ?_
 refine c_region ?_
 refine l_pure S (p_eql rfl rfl) rfl rfl rfl ?_; clear S a; intro a S
 refine l_mv 1 S rfl ?_; clear S a; intro a S
 refine l_nil ?_
 refine e_then ?_
 refine c_cond (b := false) S rfl (fun h => by cases h) (fun _ => ?_)
 refine wp_seq ?_
 refine c_region ?_
 refine l_pure S (p_eql rfl rfl) rfl rfl rfl ?_; clear S a; intro a S
 refine l_mv 1 S rfl ?_; clear S a; intro a S
 refine l_nil ?_
 refine e_then ?_
 refine c_cond (b := false) S rfl (fun h => by cases h) (fun _ => ?_)
 refine wp_seq ?_
 refine c_region ?_
 refine l_pure S (p_eql rfl rfl) rfl rfl rfl ?_; clear S a; intro a S
 refine l_mv 1 S rfl ?_; clear S a; intro a S
 refine l_nil ?_
 refine e_then ?_
 refine c_cond (b := false) S rfl (fun h => by cases h) (fun _ => ?_)
 refine wp_seq ?_
 refine c_region ?_
 refine l_pure S (p_eql rfl rfl) rfl rfl rfl ?_; clear S a; intro a S
 refine l_mv 1 S rfl ?_; clear S a; intro a S
 refine l_nil ?_
 refine e_then ?_
 refine c_cond (b := false) S rfl (fun h => by cases h) (fun _ => ?_)
 refine wp_seq ?_
 refine c_region ?_
 refine l_pure S (p_eql rfl rfl) rfl rfl rfl ?_; clear S a; intro a S
 refine l_mv 1 S rfl ?_; clear S a; intro a S
 refine l_nil ?_
 refine e_then ?_
 refine c_cond (b := false) S rfl (fun h => by cases h) (fun _ => ?_)
 refine wp_skip ?_
 refine e_in 0 ?_
 refine e_then ?_
 refine wp_seq ?_
 refine c_region ?_
 refine l_read S H (r_loadn (m := 8) (vs := [.int .i64 42, .string sv, .int .i64 nv, .float .f64 dv, .bool Bo, .string Fm, .int .i64 Num, .bool St]) rfl List.mem_cons_self ag24 sz24 rfl rfl) rfl rfl rfl ?_; clear S a; intro a S
 have hcon := hd42_ wb _ B _ sv nv dv Bo Fm Num St hN hNum H
 refine l_call S rfl rfl Tryz.func20 rfl rfl (hcon) rfl rfl rfl ?_
 rintro e w ⟨iv, ow, rfl, hM, hH⟩
 refine ⟨_, rfl, ?_⟩; clear S a; intro a S
 clear H hcon; have H := hH; clear hH
 refine l_mv 4 S rfl ?_; clear S a; intro a S
 refine l_nil ?_
 refine e_then ?_
 refine wp_ret ?_
 exact r_ret2 S rfl rfl rfl ⟨iv, ow, rfl, hM, H.sub (List.Sublist.append (.refl _) (.cons _ (.refl _)))⟩
theorem m37_ (wb w0 : World) (B : Nat) (L0 : dc.Bk) (sv : ByteArray) (nv : Int) (dv : Nat) (Bo : Bool) (Fm : ByteArray) (Num : Int) (St : Bool) (hN : -9223372036854775808 ≤ nv ∧ nv ≤ 9223372036854775807) (hNum : -9223372036854775808 ≤ Num ∧ Num ≤ 9223372036854775807) (hS : sv.size ≤ 2000) (hFm : Fm.size ≤ 100) (hF : dv < 18446744073709551616) (ab : Bool) (H : HH B wb w0 L0) : Calls Tryz.prog 12 #[.agg #[.int .i64 37, .string sv, .int .i64 nv, .float .f64 dv, .bool Bo, .string Fm, .int .i64 Num, .bool St], .bool ab] w0 fun e w' => ∃ (iv : Value) (ow : List (Nat × Obj)), e = .returned (.tuple #[iv, .bool true]) ∧ MRun iv ow (mw.mwire 37 sv nv dv Bo Fm Num St) ∧ HH B wb w' (ow ++ L0) := by
 refine c_enter (args := [.agg #[.int .i64 37, .string sv, .int .i64 nv, .float .f64 dv, .bool Bo, .string Fm, .int .i64 Num, .bool St], .bool ab]) (k := 100) Tryz.func12 rfl rfl rfl (fun a S => ?_)
 refine wp_seq ?_
 refine c_region ?_
 refine l_box (cs := #[.int .i64 37, .string sv, .int .i64 nv, .float .f64 dv, .bool Bo, .string Fm, .int .i64 Num, .bool St]) S H rfl rfl (fun w => bx) rfl rfl rfl ?_; clear S a H; intro g1 w a H S
 refine l_mv 2 S rfl ?_; clear S a; intro a S
 refine l_nil ?_
 refine e_then ?_
 refine wp_seq ?_
 refine wp_seq ?_
 refine c_region ?_
 refine l_pure S (p_fieldAddr rfl (fun w => fa24_0 w _ _)) rfl rfl rfl ?_; clear S a; intro a S
 refine l_read S H (r_load rfl List.mem_cons_self rfl (fun w hc => ld1 ag3 hc)) rfl rfl rfl ?_; clear S a; intro a S
 refine l_nil ?_
 refine e_then ?_
 refine wp_block ?_
 refine wp_seq ?_
 refine c_region ?_
 refine l_pure S (p_eql rfl rfl) rfl rfl rfl ?_; clear S a; intro a S
 refine l_mv 1 S rfl ?_; clear S a; intro a S
 refine l_nil ?_
 refine e_then ?_
 refine c_cond (b := false) S rfl (fun h => by cases h) (fun _ => ?_)
 refine wp_seq ?_
 refine c_region ?_
 refine l_pure S (p_eql rfl rfl) rfl rfl rfl ?_; clear S a; intro a S
 refine l_mv 1 S rfl ?_; clear S a; intro a S
 refine l_nil ?_
 refine e_then ?_
 refine c_cond (b := false) S rfl (fun h => by cases h) (fun _ => ?_)
 refine wp_seq ?_
 refine c_region ?_
 refine l_pure S (p_eql rfl rfl) rfl rfl rfl ?_; clear S a; intro a S
 refine l_mv 1 S rfl ?_; clear S a; intro a S
 refine l_nil ?_
 refine e_then ?_
 refine c_cond (b := false) S rfl (fun h => by cases h) (fun _ => ?_)
 refine wp_seq ?_
 refine c_region ?_
 refine l_pure S (p_eql rfl rfl) rfl rfl rfl ?_; clear S a; intro a S
 refine l_mv 1 S rfl ?_; clear S a; intro a S
 refine l_nil ?_
 refine e_then ?_
 refine c_cond (b := false) S rfl (fun h => by cases h) (fun _ => ?_)
 refine wp_seq ?_
 refine c_region ?_
 refine l_pure S (p_eql rfl rfl) rfl rfl rfl ?_; clear S a; intro a S
 refine l_mv 1 S rfl ?_; clear S a; intro a S
 refine l_nil ?_
 refine e_then ?_
 refine c_cond (b := false) S rfl (fun h => by cases h) (fun _ => ?_)
 refine wp_seq ?_
 refine c_region ?_
 refine l_pure S (p_eql rfl rfl) rfl rfl rfl ?_; clear S a; intro a S
 refine l_mv 1 S rfl ?_; clear S a; intro a S
 refine l_nil ?_
 refine e_then ?_
 refine c_cond (b := false) S rfl (fun h => by cases h) (fun _ => ?_)
 refine wp_seq ?_
 refine c_region ?_
 refine l_pure S (p_eql rfl rfl) rfl rfl rfl ?_; clear S a; intro a S
 refine l_mv 1 S rfl ?_; clear S a; intro a S
 refine l_nil ?_
 refine e_then ?_
 refine c_cond (b := false) S rfl (fun h => by cases h) (fun _ => ?_)
 refine wp_seq ?_
 refine c_region ?_
 refine l_pure S (p_eql rfl rfl) rfl rfl rfl ?_; clear S a; intro a S
 refine l_mv 1 S rfl ?_; clear S a; intro a S
 refine l_nil ?_
 refine e_then ?_
 refine c_cond (b := false) S rfl (fun h => by cases h) (fun _ => ?_)
 refine wp_seq ?_
 refine c_region ?_
 refine l_pure S (p_eql rfl rfl) rfl rfl rfl ?_; clear S a; intro a S
 refine l_mv 1 S rfl ?_; clear S a; intro a S
 refine l_nil ?_
 refine e_then ?_
 refine c_cond (b := false) S rfl (fun h => by cases h) (fun _ => ?_)
 refine wp_seq ?_
 refine c_region ?_
 refine l_pure S (p_eql rfl rfl) rfl rfl rfl ?_; clear S a; intro a S
 refine l_mv 1 S rfl ?_; clear S a; intro a S
 refine l_nil ?_
 refine e_then ?_
 refine c_cond (b := false) S rfl (fun h => by cases h) (fun _ => ?_)
 refine wp_seq ?_
 refine c_region ?_
 refine l_pure S (p_eql rfl rfl) rfl rfl rfl ?_; clear S a; intro a S
 refine l_mv 1 S rfl ?_; clear S a; intro a S
 refine l_nil ?_
 refine e_then ?_
 refine c_cond (b := false) S rfl (fun h => by cases h) (fun _ => ?_)
 refine wp_skip ?_
 refine e_in 0 ?_
 refine e_then ?_
 refine wp_seq ?_
 refine c_region ?_
 refine l_read S H (r_loadn (m := 8) (vs := [.int .i64 37, .string sv, .int .i64 nv, .float .f64 dv, .bool Bo, .string Fm, .int .i64 Num, .bool St]) rfl List.mem_cons_self ag24 sz24 rfl rfl) rfl rfl rfl ?_; clear S a; intro a S
 have hcon := hd37_ wb _ B _ sv nv dv Bo Fm Num St hN hNum H
 refine l_call S rfl rfl Tryz.func20 rfl rfl (hcon) rfl rfl rfl ?_
 rintro e w ⟨iv, ow, rfl, hM, hH⟩
 refine ⟨_, rfl, ?_⟩; clear S a; intro a S
 clear H hcon; have H := hH; clear hH
 refine l_mv 4 S rfl ?_; clear S a; intro a S
 refine l_nil ?_
 refine e_then ?_
 refine wp_ret ?_
 exact r_ret2 S rfl rfl rfl ⟨iv, ow, rfl, hM, H.sub (List.Sublist.append (.refl _) (.cons _ (.refl _)))⟩
theorem m126_ (wb w0 : World) (B : Nat) (L0 : dc.Bk) (sv : ByteArray) (nv : Int) (dv : Nat) (Bo : Bool) (Fm : ByteArray) (Num : Int) (St : Bool) (hN : -9223372036854775808 ≤ nv ∧ nv ≤ 9223372036854775807) (hNum : -9223372036854775808 ≤ Num ∧ Num ≤ 9223372036854775807) (hS : sv.size ≤ 2000) (hFm : Fm.size ≤ 100) (hF : dv < 18446744073709551616) (ab : Bool) (H : HH B wb w0 L0) : Calls Tryz.prog 12 #[.agg #[.int .i64 126, .string sv, .int .i64 nv, .float .f64 dv, .bool Bo, .string Fm, .int .i64 Num, .bool St], .bool ab] w0 fun e w' => ∃ (iv : Value) (ow : List (Nat × Obj)), e = .returned (.tuple #[iv, .bool true]) ∧ MRun iv ow (mw.mwire 126 sv nv dv Bo Fm Num St) ∧ HH B wb w' (ow ++ L0) := by
 refine c_enter (args := [.agg #[.int .i64 126, .string sv, .int .i64 nv, .float .f64 dv, .bool Bo, .string Fm, .int .i64 Num, .bool St], .bool ab]) (k := 100) Tryz.func12 rfl rfl rfl (fun a S => ?_)
 refine wp_seq ?_
 refine c_region ?_
 refine l_box (cs := #[.int .i64 126, .string sv, .int .i64 nv, .float .f64 dv, .bool Bo, .string Fm, .int .i64 Num, .bool St]) S H rfl rfl (fun w => bx) rfl rfl rfl ?_; clear S a H; intro g1 w a H S
 refine l_mv 2 S rfl ?_; clear S a; intro a S
 refine l_nil ?_
 refine e_then ?_
 refine wp_seq ?_
 refine wp_seq ?_
 refine c_region ?_
 refine l_pure S (p_fieldAddr rfl (fun w => fa24_0 w _ _)) rfl rfl rfl ?_; clear S a; intro a S
 refine l_read S H (r_load rfl List.mem_cons_self rfl (fun w hc => ld1 ag3 hc)) rfl rfl rfl ?_; clear S a; intro a S
 refine l_nil ?_
 refine e_then ?_
 refine wp_block ?_
 refine wp_seq ?_
 refine c_region ?_
 refine l_pure S (p_eql rfl rfl) rfl rfl rfl ?_; clear S a; intro a S
 refine l_mv 1 S rfl ?_; clear S a; intro a S
 refine l_nil ?_
 refine e_then ?_
 refine c_cond (b := false) S rfl (fun h => by cases h) (fun _ => ?_)
 refine wp_seq ?_
 refine c_region ?_
 refine l_pure S (p_eql rfl rfl) rfl rfl rfl ?_; clear S a; intro a S
 refine l_mv 1 S rfl ?_; clear S a; intro a S
 refine l_nil ?_
 refine e_then ?_
 refine c_cond (b := false) S rfl (fun h => by cases h) (fun _ => ?_)
 refine wp_seq ?_
 refine c_region ?_
 refine l_pure S (p_eql rfl rfl) rfl rfl rfl ?_; clear S a; intro a S
 refine l_mv 1 S rfl ?_; clear S a; intro a S
 refine l_nil ?_
 refine e_then ?_
 refine c_cond (b := false) S rfl (fun h => by cases h) (fun _ => ?_)
 refine wp_seq ?_
 refine c_region ?_
 refine l_pure S (p_eql rfl rfl) rfl rfl rfl ?_; clear S a; intro a S
 refine l_mv 1 S rfl ?_; clear S a; intro a S
 refine l_nil ?_
 refine e_then ?_
 refine c_cond (b := false) S rfl (fun h => by cases h) (fun _ => ?_)
 refine wp_seq ?_
 refine c_region ?_
 refine l_pure S (p_eql rfl rfl) rfl rfl rfl ?_; clear S a; intro a S
 refine l_mv 1 S rfl ?_; clear S a; intro a S
 refine l_nil ?_
 refine e_then ?_
 refine c_cond (b := false) S rfl (fun h => by cases h) (fun _ => ?_)
 refine wp_seq ?_
 refine c_region ?_
 refine l_pure S (p_eql rfl rfl) rfl rfl rfl ?_; clear S a; intro a S
 refine l_mv 1 S rfl ?_; clear S a; intro a S
 refine l_nil ?_
 refine e_then ?_
 refine c_cond (b := false) S rfl (fun h => by cases h) (fun _ => ?_)
 refine wp_seq ?_
 refine c_region ?_
 refine l_pure S (p_eql rfl rfl) rfl rfl rfl ?_; clear S a; intro a S
 refine l_mv 1 S rfl ?_; clear S a; intro a S
 refine l_nil ?_
 refine e_then ?_
 refine c_cond (b := false) S rfl (fun h => by cases h) (fun _ => ?_)
 refine wp_seq ?_
 refine c_region ?_
 refine l_pure S (p_eql rfl rfl) rfl rfl rfl ?_; clear S a; intro a S
 refine l_mv 1 S rfl ?_; clear S a; intro a S
 refine l_nil ?_
 refine e_then ?_
 refine c_cond (b := false) S rfl (fun h => by cases h) (fun _ => ?_)
 refine wp_seq ?_
 refine c_region ?_
 refine l_pure S (p_eql rfl rfl) rfl rfl rfl ?_; clear S a; intro a S
 refine l_mv 1 S rfl ?_; clear S a; intro a S
 refine l_nil ?_
 refine e_then ?_
 refine c_cond (b := false) S rfl (fun h => by cases h) (fun _ => ?_)
 refine wp_seq ?_
 refine c_region ?_
 refine l_pure S (p_eql rfl rfl) rfl rfl rfl ?_; clear S a; intro a S
 refine l_mv 1 S rfl ?_; clear S a; intro a S
 refine l_nil ?_
 refine e_then ?_
 refine c_cond (b := false) S rfl (fun h => by cases h) (fun _ => ?_)
 refine wp_seq ?_
 refine c_region ?_
 refine l_pure S (p_eql rfl rfl) rfl rfl rfl ?_; clear S a; intro a S
 refine l_mv 1 S rfl ?_; clear S a; intro a S
 refine l_nil ?_
 refine e_then ?_
 refine c_cond (b := false) S rfl (fun h => by cases h) (fun _ => ?_)
 refine wp_skip ?_
 refine e_in 0 ?_
 refine e_then ?_
 refine wp_seq ?_
 refine c_region ?_
 refine l_read S H (r_loadn (m := 8) (vs := [.int .i64 126, .string sv, .int .i64 nv, .float .f64 dv, .bool Bo, .string Fm, .int .i64 Num, .bool St]) rfl List.mem_cons_self ag24 sz24 rfl rfl) rfl rfl rfl ?_; clear S a; intro a S
 have hcon := hd126_ wb _ B _ sv nv dv Bo Fm Num St hN hNum H
 refine l_call S rfl rfl Tryz.func20 rfl rfl (hcon) rfl rfl rfl ?_
 rintro e w ⟨iv, ow, rfl, hM, hH⟩
 refine ⟨_, rfl, ?_⟩; clear S a; intro a S
 clear H hcon; have H := hH; clear hH
 refine l_mv 4 S rfl ?_; clear S a; intro a S
 refine l_nil ?_
 refine e_then ?_
 refine wp_ret ?_
 exact r_ret2 S rfl rfl rfl ⟨iv, ow, rfl, hM, H.sub (List.Sublist.append (.refl _) (.cons _ (.refl _)))⟩
theorem m124_ (wb w0 : World) (B : Nat) (L0 : dc.Bk) (sv : ByteArray) (nv : Int) (dv : Nat) (Bo : Bool) (Fm : ByteArray) (Num : Int) (St : Bool) (hN : -9223372036854775808 ≤ nv ∧ nv ≤ 9223372036854775807) (hNum : -9223372036854775808 ≤ Num ∧ Num ≤ 9223372036854775807) (hS : sv.size ≤ 2000) (hFm : Fm.size ≤ 100) (hF : dv < 18446744073709551616) (ab : Bool) (H : HH B wb w0 L0) : Calls Tryz.prog 12 #[.agg #[.int .i64 124, .string sv, .int .i64 nv, .float .f64 dv, .bool Bo, .string Fm, .int .i64 Num, .bool St], .bool ab] w0 fun e w' => ∃ (iv : Value) (ow : List (Nat × Obj)), e = .returned (.tuple #[iv, .bool true]) ∧ MRun iv ow (mw.mwire 124 sv nv dv Bo Fm Num St) ∧ HH B wb w' (ow ++ L0) := by
 refine c_enter (args := [.agg #[.int .i64 124, .string sv, .int .i64 nv, .float .f64 dv, .bool Bo, .string Fm, .int .i64 Num, .bool St], .bool ab]) (k := 100) Tryz.func12 rfl rfl rfl (fun a S => ?_)
 refine wp_seq ?_
 refine c_region ?_
 refine l_box (cs := #[.int .i64 124, .string sv, .int .i64 nv, .float .f64 dv, .bool Bo, .string Fm, .int .i64 Num, .bool St]) S H rfl rfl (fun w => bx) rfl rfl rfl ?_; clear S a H; intro g1 w a H S
 refine l_mv 2 S rfl ?_; clear S a; intro a S
 refine l_nil ?_
 refine e_then ?_
 refine wp_seq ?_
 refine wp_seq ?_
 refine c_region ?_
 refine l_pure S (p_fieldAddr rfl (fun w => fa24_0 w _ _)) rfl rfl rfl ?_; clear S a; intro a S
 refine l_read S H (r_load rfl List.mem_cons_self rfl (fun w hc => ld1 ag3 hc)) rfl rfl rfl ?_; clear S a; intro a S
 refine l_nil ?_
 refine e_then ?_
 refine wp_block ?_
 refine wp_seq ?_
 refine c_region ?_
 refine l_pure S (p_eql rfl rfl) rfl rfl rfl ?_; clear S a; intro a S
 refine l_mv 1 S rfl ?_; clear S a; intro a S
 refine l_nil ?_
 refine e_then ?_
 refine c_cond (b := false) S rfl (fun h => by cases h) (fun _ => ?_)
 refine wp_seq ?_
 refine c_region ?_
 refine l_pure S (p_eql rfl rfl) rfl rfl rfl ?_; clear S a; intro a S
 refine l_mv 1 S rfl ?_; clear S a; intro a S
 refine l_nil ?_
 refine e_then ?_
 refine c_cond (b := false) S rfl (fun h => by cases h) (fun _ => ?_)
 refine wp_seq ?_
 refine c_region ?_
 refine l_pure S (p_eql rfl rfl) rfl rfl rfl ?_; clear S a; intro a S
 refine l_mv 1 S rfl ?_; clear S a; intro a S
 refine l_nil ?_
 refine e_then ?_
 refine c_cond (b := false) S rfl (fun h => by cases h) (fun _ => ?_)
 refine wp_seq ?_
 refine c_region ?_
 refine l_pure S (p_eql rfl rfl) rfl rfl rfl ?_; clear S a; intro a S
 refine l_mv 1 S rfl ?_; clear S a; intro a S
 refine l_nil ?_
 refine e_then ?_
 refine c_cond (b := false) S rfl (fun h => by cases h) (fun _ => ?_)
 refine wp_seq ?_
 refine c_region ?_
 refine l_pure S (p_eql rfl rfl) rfl rfl rfl ?_; clear S a; intro a S
 refine l_mv 1 S rfl ?_; clear S a; intro a S
 refine l_nil ?_
 refine e_then ?_
 refine c_cond (b := false) S rfl (fun h => by cases h) (fun _ => ?_)
 refine wp_seq ?_
 refine c_region ?_
 refine l_pure S (p_eql rfl rfl) rfl rfl rfl ?_; clear S a; intro a S
 refine l_mv 1 S rfl ?_; clear S a; intro a S
 refine l_nil ?_
 refine e_then ?_
 refine c_cond (b := false) S rfl (fun h => by cases h) (fun _ => ?_)
 refine wp_seq ?_
 refine c_region ?_
 refine l_pure S (p_eql rfl rfl) rfl rfl rfl ?_; clear S a; intro a S
 refine l_mv 1 S rfl ?_; clear S a; intro a S
 refine l_nil ?_
 refine e_then ?_
 refine c_cond (b := false) S rfl (fun h => by cases h) (fun _ => ?_)
 refine wp_seq ?_
 refine c_region ?_
 refine l_pure S (p_eql rfl rfl) rfl rfl rfl ?_; clear S a; intro a S
 refine l_mv 1 S rfl ?_; clear S a; intro a S
 refine l_nil ?_
 refine e_then ?_
 refine c_cond (b := false) S rfl (fun h => by cases h) (fun _ => ?_)
 refine wp_seq ?_
 refine c_region ?_
 refine l_pure S (p_eql rfl rfl) rfl rfl rfl ?_; clear S a; intro a S
 refine l_mv 1 S rfl ?_; clear S a; intro a S
 refine l_nil ?_
 refine e_then ?_
 refine c_cond (b := false) S rfl (fun h => by cases h) (fun _ => ?_)
 refine wp_seq ?_
 refine c_region ?_
 refine l_pure S (p_eql rfl rfl) rfl rfl rfl ?_; clear S a; intro a S
 refine l_mv 1 S rfl ?_; clear S a; intro a S
 refine l_nil ?_
 refine e_then ?_
 refine c_cond (b := false) S rfl (fun h => by cases h) (fun _ => ?_)
 refine wp_seq ?_
 refine c_region ?_
 refine l_pure S (p_eql rfl rfl) rfl rfl rfl ?_; clear S a; intro a S
 refine l_mv 1 S rfl ?_; clear S a; intro a S
 refine l_nil ?_
 refine e_then ?_
 refine c_cond (b := false) S rfl (fun h => by cases h) (fun _ => ?_)
 refine wp_skip ?_
 refine e_in 0 ?_
 refine e_then ?_
 refine wp_seq ?_
 refine c_region ?_
 refine l_read S H (r_loadn (m := 8) (vs := [.int .i64 124, .string sv, .int .i64 nv, .float .f64 dv, .bool Bo, .string Fm, .int .i64 Num, .bool St]) rfl List.mem_cons_self ag24 sz24 rfl rfl) rfl rfl rfl ?_; clear S a; intro a S
 have hcon := hd124_ wb _ B _ sv nv dv Bo Fm Num St hN hNum H
 refine l_call S rfl rfl Tryz.func20 rfl rfl (hcon) rfl rfl rfl ?_
 rintro e w ⟨iv, ow, rfl, hM, hH⟩
 refine ⟨_, rfl, ?_⟩; clear S a; intro a S
 clear H hcon; have H := hH; clear hH
 refine l_mv 4 S rfl ?_; clear S a; intro a S
 refine l_nil ?_
 refine e_then ?_
 refine wp_ret ?_
 exact r_ret2 S rfl rfl rfl ⟨iv, ow, rfl, hM, H.sub (List.Sublist.append (.refl _) (.cons _ (.refl _)))⟩
theorem m62_ (wb w0 : World) (B : Nat) (L0 : dc.Bk) (sv : ByteArray) (nv : Int) (dv : Nat) (Bo : Bool) (Fm : ByteArray) (Num : Int) (St : Bool) (hN : -9223372036854775808 ≤ nv ∧ nv ≤ 9223372036854775807) (hNum : -9223372036854775808 ≤ Num ∧ Num ≤ 9223372036854775807) (hS : sv.size ≤ 2000) (hFm : Fm.size ≤ 100) (hF : dv < 18446744073709551616) (ab : Bool) (H : HH B wb w0 L0) : Calls Tryz.prog 12 #[.agg #[.int .i64 62, .string sv, .int .i64 nv, .float .f64 dv, .bool Bo, .string Fm, .int .i64 Num, .bool St], .bool ab] w0 fun e w' => ∃ (iv : Value) (ow : List (Nat × Obj)), e = .returned (.tuple #[iv, .bool true]) ∧ MRun iv ow (mw.mwire 62 sv nv dv Bo Fm Num St) ∧ HH B wb w' (ow ++ L0) := by
 refine c_enter (args := [.agg #[.int .i64 62, .string sv, .int .i64 nv, .float .f64 dv, .bool Bo, .string Fm, .int .i64 Num, .bool St], .bool ab]) (k := 100) Tryz.func12 rfl rfl rfl (fun a S => ?_)
 refine wp_seq ?_
 refine c_region ?_
 refine l_box (cs := #[.int .i64 62, .string sv, .int .i64 nv, .float .f64 dv, .bool Bo, .string Fm, .int .i64 Num, .bool St]) S H rfl rfl (fun w => bx) rfl rfl rfl ?_; clear S a H; intro g1 w a H S
 refine l_mv 2 S rfl ?_; clear S a; intro a S
 refine l_nil ?_
 refine e_then ?_
 refine wp_seq ?_
 refine wp_seq ?_
 refine c_region ?_
 refine l_pure S (p_fieldAddr rfl (fun w => fa24_0 w _ _)) rfl rfl rfl ?_; clear S a; intro a S
 refine l_read S H (r_load rfl List.mem_cons_self rfl (fun w hc => ld1 ag3 hc)) rfl rfl rfl ?_; clear S a; intro a S
 refine l_nil ?_
 refine e_then ?_
 refine wp_block ?_
 refine wp_seq ?_
 refine c_region ?_
 refine l_pure S (p_eql rfl rfl) rfl rfl rfl ?_; clear S a; intro a S
 refine l_mv 1 S rfl ?_; clear S a; intro a S
 refine l_nil ?_
 refine e_then ?_
 refine c_cond (b := false) S rfl (fun h => by cases h) (fun _ => ?_)
 refine wp_seq ?_
 refine c_region ?_
 refine l_pure S (p_eql rfl rfl) rfl rfl rfl ?_; clear S a; intro a S
 refine l_mv 1 S rfl ?_; clear S a; intro a S
 refine l_nil ?_
 refine e_then ?_
 refine c_cond (b := false) S rfl (fun h => by cases h) (fun _ => ?_)
 refine wp_seq ?_
 refine c_region ?_
 refine l_pure S (p_eql rfl rfl) rfl rfl rfl ?_; clear S a; intro a S
 refine l_mv 1 S rfl ?_; clear S a; intro a S
 refine l_nil ?_
 refine e_then ?_
 refine c_cond (b := false) S rfl (fun h => by cases h) (fun _ => ?_)
 refine wp_seq ?_
 refine c_region ?_
 refine l_pure S (p_eql rfl rfl) rfl rfl rfl ?_; clear S a; intro a S
 refine l_mv 1 S rfl ?_; clear S a; intro a S
 refine l_nil ?_
 refine e_then ?_
 refine c_cond (b := false) S rfl (fun h => by cases h) (fun _ => ?_)
 refine wp_seq ?_
 refine c_region ?_
 refine l_pure S (p_eql rfl rfl) rfl rfl rfl ?_; clear S a; intro a S
 refine l_mv 1 S rfl ?_; clear S a; intro a S
 refine l_nil ?_
 refine e_then ?_
 refine c_cond (b := false) S rfl (fun h => by cases h) (fun _ => ?_)
 refine wp_seq ?_
 refine c_region ?_
 refine l_pure S (p_eql rfl rfl) rfl rfl rfl ?_; clear S a; intro a S
 refine l_mv 1 S rfl ?_; clear S a; intro a S
 refine l_nil ?_
 refine e_then ?_
 refine c_cond (b := false) S rfl (fun h => by cases h) (fun _ => ?_)
 refine wp_seq ?_
 refine c_region ?_
 refine l_pure S (p_eql rfl rfl) rfl rfl rfl ?_; clear S a; intro a S
 refine l_mv 1 S rfl ?_; clear S a; intro a S
 refine l_nil ?_
 refine e_then ?_
 refine c_cond (b := false) S rfl (fun h => by cases h) (fun _ => ?_)
 refine wp_seq ?_
 refine c_region ?_
 refine l_pure S (p_eql rfl rfl) rfl rfl rfl ?_; clear S a; intro a S
 refine l_mv 1 S rfl ?_; clear S a; intro a S
 refine l_nil ?_
 refine e_then ?_
 refine c_cond (b := false) S rfl (fun h => by cases h) (fun _ => ?_)
 refine wp_seq ?_
 refine c_region ?_
 refine l_pure S (p_eql rfl rfl) rfl rfl rfl ?_; clear S a; intro a S
 refine l_mv 1 S rfl ?_; clear S a; intro a S
 refine l_nil ?_
 refine e_then ?_
 refine c_cond (b := false) S rfl (fun h => by cases h) (fun _ => ?_)
 refine wp_seq ?_
 refine c_region ?_
 refine l_pure S (p_eql rfl rfl) rfl rfl rfl ?_; clear S a; intro a S
 refine l_mv 1 S rfl ?_; clear S a; intro a S
 refine l_nil ?_
 refine e_then ?_
 refine c_cond (b := false) S rfl (fun h => by cases h) (fun _ => ?_)
 refine wp_seq ?_
 refine c_region ?_
 refine l_pure S (p_eql rfl rfl) rfl rfl rfl ?_; clear S a; intro a S
 refine l_mv 1 S rfl ?_; clear S a; intro a S
 refine l_nil ?_
 refine e_then ?_
 refine c_cond (b := false) S rfl (fun h => by cases h) (fun _ => ?_)
 refine wp_skip ?_
 refine e_in 0 ?_
 refine e_then ?_
 refine wp_seq ?_
 refine c_region ?_
 refine l_read S H (r_loadn (m := 8) (vs := [.int .i64 62, .string sv, .int .i64 nv, .float .f64 dv, .bool Bo, .string Fm, .int .i64 Num, .bool St]) rfl List.mem_cons_self ag24 sz24 rfl rfl) rfl rfl rfl ?_; clear S a; intro a S
 have hcon := hd62_ wb _ B _ sv nv dv Bo Fm Num St hN hNum H
 refine l_call S rfl rfl Tryz.func20 rfl rfl (hcon) rfl rfl rfl ?_
 rintro e w ⟨iv, ow, rfl, hM, hH⟩
 refine ⟨_, rfl, ?_⟩; clear S a; intro a S
 clear H hcon; have H := hH; clear hH
 refine l_mv 4 S rfl ?_; clear S a; intro a S
 refine l_nil ?_
 refine e_then ?_
 refine wp_ret ?_
 exact r_ret2 S rfl rfl rfl ⟨iv, ow, rfl, hM, H.sub (List.Sublist.append (.refl _) (.cons _ (.refl _)))⟩
theorem mar_ (wb w0 : World) (B : Nat) (L0 : dc.Bk) (K : Int) (sv : ByteArray) (nv : Int) (dv : Nat) (Bo : Bool) (Fm : ByteArray) (Num : Int) (St : Bool) (hK : mw.typed K) (hS : sv.size ≤ 2000) (hFm : Fm.size ≤ 100) (hN : -9223372036854775808 ≤ nv ∧ nv ≤ 9223372036854775807) (hNum : -9223372036854775808 ≤ Num ∧ Num ≤ 9223372036854775807) (hF : dv < 18446744073709551616) (h61 : K = 61 → Fm.size = 3) (ab : Bool) (H : HH B wb w0 L0) : Calls Tryz.prog 12 #[.agg #[.int .i64 K, .string sv, .int .i64 nv, .float .f64 dv, .bool Bo, .string Fm, .int .i64 Num, .bool St], .bool ab] w0 fun e w' => ∃ (iv : Value) (ow : List (Nat × Obj)), e = .returned (.tuple #[iv, .bool true]) ∧ MRun iv ow (mw.mwire K sv nv dv Bo Fm Num St) ∧ HH B wb w' (ow ++ L0) := by
 rcases hK with rfl | rfl | rfl | rfl | rfl | rfl | rfl | rfl | rfl | rfl | rfl | rfl | rfl | rfl | rfl | rfl
 ·
  cases ab <;> cases St
  ·
   exact m36ff_ wb w0 B L0 sv nv dv Bo Fm Num hN hNum hS hFm hF H
  ·
   exact m36ft_ wb w0 B L0 sv nv dv Bo Fm Num hN hNum hS hFm hF H
  ·
   exact m36tf_ wb w0 B L0 sv nv dv Bo Fm Num hN hNum hS hFm hF H
  ·
   exact m36tt_ wb w0 B L0 sv nv dv Bo Fm Num hN hNum hS hFm hF H
 ·
  exact m43_ wb w0 B L0 sv nv dv Bo Fm Num St hN hNum hS hFm hF ab H
 ·
  exact m45_ wb w0 B L0 sv nv dv Bo Fm Num St hN hNum hS hFm hF ab H
 ·
  exact m58_ wb w0 B L0 sv nv dv Bo Fm Num St hN hNum hS hFm hF ab H
 ·
  exact m95_ wb w0 B L0 sv nv dv Bo Fm Num St hN hNum hS hFm hF ab H
 ·
  exact m46_ wb w0 B L0 sv nv dv Bo Fm Num St hN hNum hS hFm hF ab H
 ·
  exact m44_ wb w0 B L0 sv nv dv Bo Fm Num St hN hNum hS hFm hF ab H
 ·
  cases Bo
  ·
   exact m35bf_ wb w0 B L0 sv nv dv Fm Num St hN hNum hS hFm hF ab H
  ·
   exact m35bt_ wb w0 B L0 sv nv dv Fm Num St hN hNum hS hFm hF ab H
 ·
  exact m33_ wb w0 B L0 sv nv dv Bo Fm Num St hN hNum hS hFm hF ab H
 ·
  cases ab
  ·
   exact m61f_ wb w0 B L0 sv nv dv Bo Fm Num St hN hNum hS hFm hF (h61 rfl) H
  ·
   exact m61t_ wb w0 B L0 sv nv dv Bo Fm Num St hN hNum hS hFm hF (h61 rfl) H
 ·
  rcases Nat.eq_zero_or_pos sv.size with h0 | h0 <;> cases ab
  ·
   exact m59fz0_ wb w0 B L0 sv nv dv Bo Fm Num St hN hNum hS hFm hF h0 H
  ·
   exact m59tz0_ wb w0 B L0 sv nv dv Bo Fm Num St hN hNum hS hFm hF h0 H
  ·
   exact m59fz1_ wb w0 B L0 sv nv dv Bo Fm Num St hN hNum hS hFm hF h0 H
  ·
   exact m59tz1_ wb w0 B L0 sv nv dv Bo Fm Num St hN hNum hS hFm hF h0 H
 ·
  exact m42_ wb w0 B L0 sv nv dv Bo Fm Num St hN hNum hS hFm hF ab H
 ·
  exact m37_ wb w0 B L0 sv nv dv Bo Fm Num St hN hNum hS hFm hF ab H
 ·
  exact m126_ wb w0 B L0 sv nv dv Bo Fm Num St hN hNum hS hFm hF ab H
 ·
  exact m124_ wb w0 B L0 sv nv dv Bo Fm Num St hN hNum hS hFm hF ab H
 ·
  exact m62_ wb w0 B L0 sv nv dv Bo Fm Num St hN hNum hS hFm hF ab H
end mr
end Go.Proofs.YtfbfmcjjohiikaaGreatDoor.mw
end
section
namespace Go.Proofs.YtfbfmcjjohiikaaGreatDoor.mw
open Go.Proofs.YtfbfmcjjohiikaaGreatDoor.fx
open Go.RowKit Go.Proofs.HHW Go.Proofs.YtfbfmcjjohiikaaGreatDoorW.PrintWords
namespace wi
theorem ag44 : aggB Tryz.prog 44 = some false := by kernel_rfl
theorem fa104_0 (w : World) (g o : Nat) : (Instr.fieldAt 104 (.pointer (some ⟨g, o, none⟩)) 0).run Tryz.prog w = .ok (.pointer (some ⟨g, o + 0, none⟩)) w := by kernel_rfl
theorem sz104 : szB Tryz.prog 104 = some 1 := by kernel_rfl
theorem zv104 : zvB Tryz.prog 104 = some (.agg #[.nilIface]) := by kernel_rfl
theorem zv3 : zvB Tryz.prog 3 = some (.int .i64 0) := by kernel_rfl
theorem zv38 : zvB Tryz.prog 38 = some (.agg #[.slice none 0 0, .int .i64 0, .int .i8 0]) := by kernel_rfl
theorem zv9 : zvB Tryz.prog 9 = some (.string ⟨#[]⟩) := by kernel_rfl
theorem bld104_0 (x0_0t : TypeId) (x0_0v : Value) : Tryz.prog.built 104 [(0, (.iface x0_0t x0_0v))] = some #[.iface x0_0t x0_0v] := by kernel_rfl
theorem bld223_0 (x0_0 : ByteArray) : Tryz.prog.built 223 [(0, (.string x0_0))] = some #[.string x0_0] := by kernel_rfl
theorem mi44 : Tryz.prog.underlying 44 = some (.interface (Tryz.prog.methodsAt 44)) := by kernel_rfl
theorem mk46 (w : World) (p : Option Addr) : (Instr.makeInterface 46 (.pointer p)).run Tryz.prog w = .ok (.iface 46 (.pointer p)) w := by kernel_rfl
theorem mk221 (w : World) (p : Option Addr) : (Instr.makeInterface 221 (.pointer p)).run Tryz.prog w = .ok (.iface 221 (.pointer p)) w := by kernel_rfl
open mr
theorem r_retD {P : Program} {a : Act} {n : Nat} {F : List (Nat × Value)} {w : World} {fn : Func} {R : Ending → World → Prop} {v : Value} (S : SL a n [] F) (hres : ∀ tmps : Array Value, (∀ i v, slot F i = some v → tmps[i]? = some v) → (results fn tmps).run P w = .ok v w) (hR : R (.returned v) w) : bodyPostD P fn R .ret a w := by
 obtain ⟨tmps, dfs⟩ := a
 have hd : dfs = [] := S.defers
 subst hd
 exact ⟨v, hres tmps S.at_, hR⟩
theorem miE (w : World) (t : TypeId) (v : Value) : (Instr.makeInterface 104 (.agg #[.iface t v])).run Tryz.prog w = .ok (.iface 104 (.agg #[.iface t v])) w := by kernel_rfl
theorem taU (w : World) (v : Value) : (Instr.typeAssert (.iface 104 (.agg #[v])) 44 104 true).run Tryz.prog w = .ok (.tuple #[.agg #[v], .bool true]) w := by kernel_rfl
theorem taS (w : World) (v : Value) : (Instr.typeAssert (.iface 221 v) 44 61 true).run Tryz.prog w = .ok (.tuple #[.agg #[.string ⟨#[]⟩], .bool false]) w := by kernel_rfl
theorem taB (w : World) (v : Value) : (Instr.typeAssert (.iface 221 v) 44 71 true).run Tryz.prog w = .ok (.tuple #[.agg #[.slice none 0 0], .bool false]) w := by kernel_rfl
theorem en_ (wb w0 : World) (B : Nat) (L0 : dc.Bk) (s : ByteArray) (H : HH B wb w0 L0) : Calls Tryz.prog 124 #[.string s] w0 fun e w' => ∃ pe : Addr, e = .returned (.iface 221 (.pointer (some pe))) ∧ HH B wb w' L0 := by
 refine c_enter (args := [.string s]) (k := 6) Tryz.func124 rfl rfl rfl (fun a S => ?_)
 refine wp_seq ?_
 refine c_region ?_
 refine l_mv 1 S rfl ?_; clear S a; intro a S
 refine l_nil ?_
 refine e_then ?_
 refine wp_seq ?_
 refine c_region ?_
 refine l_mv 1 S rfl ?_; clear S a; intro a S
 refine l_pure S (p_bld (ps := [(0, .tmp 3)]) rfl (bld223_0 _)) rfl rfl rfl ?_; clear S a; intro a S
 refine l_box (cs := #[.string s]) S H rfl rfl (fun w => bx) rfl rfl rfl ?_; clear S a H; intro g1 w a H S
 refine l_pure S (p_iface rfl (fun w => mk221 w _)) rfl rfl rfl ?_; clear S a; intro a S
 refine l_mv 1 S rfl ?_; clear S a; intro a S
 refine l_nil ?_
 refine e_then ?_
 refine wp_ret ?_
 exact r_ret1 S rfl rfl ⟨_, rfl, H.tail⟩
theorem vstE_ (wb w0 : World) (B : Nat) (L0 : dc.Bk) (go b : Nat) (tx fx : ByteArray) (hfx : fx.size ≠ 3) (H : HH B wb w0 L0) : Calls Tryz.prog 125 #[.agg #[.string tx, .string fx], .iface 46 (.pointer (some ⟨b, 0, none⟩)), .pointer (some ⟨go, 0, none⟩)] w0 fun e w' => ∃ pe : Addr, e = .returned (.iface 104 (.agg #[.iface 221 (.pointer (some pe))])) ∧ HH B wb w' L0 := by
 refine c_enter_d (args := [.agg #[.string tx, .string fx], .iface 46 (.pointer (some ⟨b, 0, none⟩)), .pointer (some ⟨go, 0, none⟩)]) (k := 89) Tryz.func125 rfl rfl rfl (fun a S => ?_)
 refine wp_seq ?_
 refine c_region ?_
 refine l_box (cs := #[.string tx, .string fx]) S H rfl rfl (fun w => bx) rfl rfl rfl ?_; clear S a H; intro g1 w a H S
 refine l_mv 1 S rfl ?_; clear S a; intro a S
 refine l_nil ?_
 refine e_then ?_
 refine wp_seq ?_
 refine wp_seq ?_
 refine c_region ?_
 refine l_pure S (p_fieldAddr rfl (fun w => fa75_1 w _ _)) rfl rfl rfl ?_; clear S a; intro a S
 refine l_read S H (r_load rfl List.mem_cons_self rfl (fun w hc => ld1 ag9 hc)) rfl rfl rfl ?_; clear S a; intro a S
 refine l_pure S (p_lens Tryz.underlying9 rfl) rfl rfl rfl ?_; clear S a; intro a S
 refine l_pure S (p_neq rfl rfl) rfl rfl rfl ?_; clear S a; intro a S
 refine l_nil ?_
 refine e_then ?_
 refine c_cond S rfl (fun c3 => ?_) (fun c3 => by have c3 := bne_eq_false_iff_eq.1 c3; exfalso; omega)
 have c3 := bne_iff_ne.1 c3
 refine wp_seq ?_
 refine c_region ?_
 have hcon := en_ wb _ B _ ⟨#[102, 111, 114, 109, 97, 116, 32, 109, 117, 115, 116, 32, 98, 101, 32, 101, 120, 97, 99, 116, 108, 121, 32, 51, 32, 99, 104, 97, 114, 97, 99, 116, 101, 114, 115]⟩ H
 refine l_call S rfl rfl Tryz.func124 rfl rfl (hcon) rfl rfl rfl ?_
 rintro e w ⟨pe, rfl, hH⟩
 refine ⟨_, rfl, ?_⟩; clear S a; intro a S
 clear H hcon; have H := hH; clear hH
 refine l_pure S (p_bld (ps := [(0, .tmp 14)]) rfl (bld104_0 _ _)) rfl rfl rfl ?_; clear S a; intro a S
 refine l_pure S (p_iface rfl (fun w => miE w _ _)) rfl rfl rfl ?_; clear S a; intro a S
 refine l_mv 1 S rfl ?_; clear S a; intro a S
 refine l_nil ?_
 refine e_then ?_
 refine wp_ret ?_
 refine e_then_ret ?_
 exact r_retD S (res_t1 rfl rfl) ⟨pe, rfl, H.tail⟩
theorem vsbE_ (wb w0 : World) (B : Nat) (L0 : dc.Bk) (go b : Nat) (Ax Ay : Option Addr) (nx cx ny cy : Nat) (hny : ny ≠ 3) (H : HH B wb w0 L0) : Calls Tryz.prog 123 #[.agg #[.slice Ax nx cx, .slice Ay ny cy], .iface 46 (.pointer (some ⟨b, 0, none⟩)), .pointer (some ⟨go, 0, none⟩)] w0 fun e w' => ∃ pe : Addr, e = .returned (.iface 104 (.agg #[.iface 221 (.pointer (some pe))])) ∧ HH B wb w' L0 := by
 refine c_enter_d (args := [.agg #[.slice Ax nx cx, .slice Ay ny cy], .iface 46 (.pointer (some ⟨b, 0, none⟩)), .pointer (some ⟨go, 0, none⟩)]) (k := 89) Tryz.func123 rfl rfl rfl (fun a S => ?_)
 refine wp_seq ?_
 refine c_region ?_
 refine l_box (cs := #[.slice Ax nx cx, .slice Ay ny cy]) S H rfl rfl (fun w => bx) rfl rfl rfl ?_; clear S a H; intro g1 w a H S
 refine l_mv 1 S rfl ?_; clear S a; intro a S
 refine l_nil ?_
 refine e_then ?_
 refine wp_seq ?_
 refine wp_seq ?_
 refine c_region ?_
 refine l_pure S (p_fieldAddr rfl (fun w => fa73_1 w _ _)) rfl rfl rfl ?_; clear S a; intro a S
 refine l_read S H (r_load rfl List.mem_cons_self rfl (fun w hc => ld1 ag34 hc)) rfl rfl rfl ?_; clear S a; intro a S
 refine l_pure S (p_len Tryz.underlying34 rfl) rfl rfl rfl ?_; clear S a; intro a S
 refine l_pure S (p_neq rfl rfl) rfl rfl rfl ?_; clear S a; intro a S
 refine l_nil ?_
 refine e_then ?_
 refine c_cond S rfl (fun c3 => ?_) (fun c3 => by have c3 := bne_eq_false_iff_eq.1 c3; exfalso; omega)
 have c3 := bne_iff_ne.1 c3
 refine wp_seq ?_
 refine c_region ?_
 have hcon := en_ wb _ B _ ⟨#[102, 111, 114, 109, 97, 116, 32, 109, 117, 115, 116, 32, 98, 101, 32, 101, 120, 97, 99, 116, 108, 121, 32, 51, 32, 99, 104, 97, 114, 97, 99, 116, 101, 114, 115]⟩ H
 refine l_call S rfl rfl Tryz.func124 rfl rfl (hcon) rfl rfl rfl ?_
 rintro e w ⟨pe, rfl, hH⟩
 refine ⟨_, rfl, ?_⟩; clear S a; intro a S
 clear H hcon; have H := hH; clear hH
 refine l_pure S (p_bld (ps := [(0, .tmp 14)]) rfl (bld104_0 _ _)) rfl rfl rfl ?_; clear S a; intro a S
 refine l_pure S (p_iface rfl (fun w => miE w _ _)) rfl rfl rfl ?_; clear S a; intro a S
 refine l_mv 1 S rfl ?_; clear S a; intro a S
 refine l_nil ?_
 refine e_then ?_
 refine wp_ret ?_
 refine e_then_ret ?_
 exact r_retD S (res_t1 rfl rfl) ⟨pe, rfl, H.tail⟩
theorem marEt_ (wb w0 : World) (B : Nat) (L0 : dc.Bk) (sv : ByteArray) (nv : Int) (dv : Nat) (Bo : Bool) (Fm : ByteArray) (Num : Int) (St : Bool) (hS : sv.size ≤ 2000) (hFm : Fm.size ≤ 100) (h3 : Fm.size ≠ 3) (H : HH B wb w0 L0) : Calls Tryz.prog 12 #[.agg #[.int .i64 61, .string sv, .int .i64 nv, .float .f64 dv, .bool Bo, .string Fm, .int .i64 Num, .bool St], .bool true] w0 fun e w' => ∃ (iv : Value) (ow : List (Nat × Obj)), e = .returned (.tuple #[iv, .bool true]) ∧ MRunE iv ow ∧ HH B wb w' (ow ++ L0) := by
 refine c_enter (args := [.agg #[.int .i64 61, .string sv, .int .i64 nv, .float .f64 dv, .bool Bo, .string Fm, .int .i64 Num, .bool St], .bool true]) (k := 100) Tryz.func12 rfl rfl rfl (fun a S => ?_)
 refine wp_seq ?_
 refine c_region ?_
 refine l_box (cs := #[.int .i64 61, .string sv, .int .i64 nv, .float .f64 dv, .bool Bo, .string Fm, .int .i64 Num, .bool St]) S H rfl rfl (fun w => bx) rfl rfl rfl ?_; clear S a H; intro g1 w a H S
 refine l_mv 2 S rfl ?_; clear S a; intro a S
 refine l_nil ?_
 refine e_then ?_
 refine wp_seq ?_
 refine wp_seq ?_
 refine c_region ?_
 refine l_pure S (p_fieldAddr rfl (fun w => fa24_0 w _ _)) rfl rfl rfl ?_; clear S a; intro a S
 refine l_read S H (r_load rfl List.mem_cons_self rfl (fun w hc => ld1 ag3 hc)) rfl rfl rfl ?_; clear S a; intro a S
 refine l_nil ?_
 refine e_then ?_
 refine wp_block ?_
 refine wp_seq ?_
 refine c_region ?_
 refine l_pure S (p_eql rfl rfl) rfl rfl rfl ?_; clear S a; intro a S
 refine l_mv 1 S rfl ?_; clear S a; intro a S
 refine l_nil ?_
 refine e_then ?_
 refine c_cond (b := false) S rfl (fun h => by cases h) (fun _ => ?_)
 refine wp_seq ?_
 refine c_region ?_
 refine l_pure S (p_eql rfl rfl) rfl rfl rfl ?_; clear S a; intro a S
 refine l_mv 1 S rfl ?_; clear S a; intro a S
 refine l_nil ?_
 refine e_then ?_
 refine c_cond (b := false) S rfl (fun h => by cases h) (fun _ => ?_)
 refine wp_seq ?_
 refine c_region ?_
 refine l_pure S (p_eql rfl rfl) rfl rfl rfl ?_; clear S a; intro a S
 refine l_mv 1 S rfl ?_; clear S a; intro a S
 refine l_nil ?_
 refine e_then ?_
 refine c_cond (b := false) S rfl (fun h => by cases h) (fun _ => ?_)
 refine wp_seq ?_
 refine c_region ?_
 refine l_pure S (p_eql rfl rfl) rfl rfl rfl ?_; clear S a; intro a S
 refine l_mv 1 S rfl ?_; clear S a; intro a S
 refine l_nil ?_
 refine e_then ?_
 refine c_cond (b := false) S rfl (fun h => by cases h) (fun _ => ?_)
 refine wp_seq ?_
 refine c_region ?_
 refine l_pure S (p_eql rfl rfl) rfl rfl rfl ?_; clear S a; intro a S
 refine l_mv 1 S rfl ?_; clear S a; intro a S
 refine l_nil ?_
 refine e_then ?_
 refine c_cond (b := false) S rfl (fun h => by cases h) (fun _ => ?_)
 refine wp_seq ?_
 refine c_region ?_
 refine l_pure S (p_eql rfl rfl) rfl rfl rfl ?_; clear S a; intro a S
 refine l_mv 1 S rfl ?_; clear S a; intro a S
 refine l_nil ?_
 refine e_then ?_
 refine c_cond (b := false) S rfl (fun h => by cases h) (fun _ => ?_)
 refine wp_seq ?_
 refine c_region ?_
 refine l_pure S (p_eql rfl rfl) rfl rfl rfl ?_; clear S a; intro a S
 refine l_mv 1 S rfl ?_; clear S a; intro a S
 refine l_nil ?_
 refine e_then ?_
 refine c_cond (b := false) S rfl (fun h => by cases h) (fun _ => ?_)
 refine wp_seq ?_
 refine c_region ?_
 refine l_pure S (p_eql rfl rfl) rfl rfl rfl ?_; clear S a; intro a S
 refine l_mv 1 S rfl ?_; clear S a; intro a S
 refine l_nil ?_
 refine e_then ?_
 refine c_cond (b := false) S rfl (fun h => by cases h) (fun _ => ?_)
 refine wp_seq ?_
 refine c_region ?_
 refine l_pure S (p_eql rfl rfl) rfl rfl rfl ?_; clear S a; intro a S
 refine l_mv 1 S rfl ?_; clear S a; intro a S
 refine l_nil ?_
 refine e_then ?_
 refine c_cond (b := true) S rfl (fun _ => ?_) (fun h => by cases h)
 refine wp_seq ?_
 refine wp_seq ?_
 refine c_region ?_
 refine l_mv 1 S rfl ?_; clear S a; intro a S
 refine l_nil ?_
 refine e_then ?_
 refine c_cond (b := true) S rfl (fun _ => ?_) (fun h => by cases h)
 refine wp_seq ?_
 refine c_region ?_
 refine l_pure S (p_fieldAddr rfl (fun w => fa24_1 w _ _)) rfl rfl rfl ?_; clear S a; intro a S
 refine l_read S H (r_load rfl List.mem_cons_self rfl (fun w hc => ld1 ag9 hc)) rfl rfl rfl ?_; clear S a; intro a S
 refine l_bytesOwn (s := sv) S H rfl rfl Tryz.underlying9 Tryz.underlying34 Tryz.underlying5 rfl rfl rfl ?_; clear S a H; intro v_ ow23 w a how23 H S
 rw [← ints_len sv] at how23
 obtain ⟨Aow23, cow23, rfl, _⟩ := how23.slice
 refine l_pure S (p_fieldAddr rfl (fun w => fa24_5 w _ _)) rfl rfl rfl ?_; clear S a; intro a S
 refine l_read S H (r_load rfl (List.mem_append_right _ List.mem_cons_self) rfl (fun w hc => ld1 ag9 hc)) rfl rfl rfl ?_; clear S a; intro a S
 refine l_bytesOwn (s := Fm) S H rfl rfl Tryz.underlying9 Tryz.underlying34 Tryz.underlying5 rfl rfl rfl ?_; clear S a H; intro v_ ow24 w a how24 H S
 rw [← ints_len Fm] at how24
 obtain ⟨Aow24, cow24, rfl, _⟩ := how24.slice
 refine l_pure S (p_bld (ps := [(0, .tmp 70), (1, .tmp 73)]) rfl (bld73_0_1 _ _ _ _ _ _)) rfl rfl rfl ?_; clear S a; intro a S
 refine l_pure S (p_iface rfl (fun w => mi73 w _ _ _ _ _ _)) rfl rfl rfl ?_; clear S a; intro a S
 refine l_mv 2 S rfl ?_; clear S a; intro a S
 refine l_nil ?_
 refine e_then ?_
 refine wp_ret ?_
 refine e_then_ret ?_
 refine e_in_ret ?_
 refine e_then_ret ?_
 replace H : HH B wb _ (ow24 ++ (ow23 ++ L0)) := H.sub (List.Sublist.append (.refl _) (List.Sublist.append (.refl _) (.cons _ (.refl _))))
 exact r_ret2 S rfl rfl rfl ⟨_, (ow24 ++ ow23), rfl, ⟨73, _, _, _, rfl, fun w => me73 w _, fun w => nl73 w _, Tryz.func123, rfl, rfl, fun wb w0 B L0 hs go bp b l ls hE ht hT H hl => vsbE_ wb w0 B (ls ++ L0) go b _ _ _ _ _ _ (by rw [ints_len]; exact h3) H⟩, HH.app H (by simp)⟩
theorem marEf_ (wb w0 : World) (B : Nat) (L0 : dc.Bk) (sv : ByteArray) (nv : Int) (dv : Nat) (Bo : Bool) (Fm : ByteArray) (Num : Int) (St : Bool) (hS : sv.size ≤ 2000) (hFm : Fm.size ≤ 100) (h3 : Fm.size ≠ 3) (H : HH B wb w0 L0) : Calls Tryz.prog 12 #[.agg #[.int .i64 61, .string sv, .int .i64 nv, .float .f64 dv, .bool Bo, .string Fm, .int .i64 Num, .bool St], .bool false] w0 fun e w' => ∃ (iv : Value) (ow : List (Nat × Obj)), e = .returned (.tuple #[iv, .bool true]) ∧ MRunE iv ow ∧ HH B wb w' (ow ++ L0) := by
 refine c_enter (args := [.agg #[.int .i64 61, .string sv, .int .i64 nv, .float .f64 dv, .bool Bo, .string Fm, .int .i64 Num, .bool St], .bool false]) (k := 100) Tryz.func12 rfl rfl rfl (fun a S => ?_)
 refine wp_seq ?_
 refine c_region ?_
 refine l_box (cs := #[.int .i64 61, .string sv, .int .i64 nv, .float .f64 dv, .bool Bo, .string Fm, .int .i64 Num, .bool St]) S H rfl rfl (fun w => bx) rfl rfl rfl ?_; clear S a H; intro g1 w a H S
 refine l_mv 2 S rfl ?_; clear S a; intro a S
 refine l_nil ?_
 refine e_then ?_
 refine wp_seq ?_
 refine wp_seq ?_
 refine c_region ?_
 refine l_pure S (p_fieldAddr rfl (fun w => fa24_0 w _ _)) rfl rfl rfl ?_; clear S a; intro a S
 refine l_read S H (r_load rfl List.mem_cons_self rfl (fun w hc => ld1 ag3 hc)) rfl rfl rfl ?_; clear S a; intro a S
 refine l_nil ?_
 refine e_then ?_
 refine wp_block ?_
 refine wp_seq ?_
 refine c_region ?_
 refine l_pure S (p_eql rfl rfl) rfl rfl rfl ?_; clear S a; intro a S
 refine l_mv 1 S rfl ?_; clear S a; intro a S
 refine l_nil ?_
 refine e_then ?_
 refine c_cond (b := false) S rfl (fun h => by cases h) (fun _ => ?_)
 refine wp_seq ?_
 refine c_region ?_
 refine l_pure S (p_eql rfl rfl) rfl rfl rfl ?_; clear S a; intro a S
 refine l_mv 1 S rfl ?_; clear S a; intro a S
 refine l_nil ?_
 refine e_then ?_
 refine c_cond (b := false) S rfl (fun h => by cases h) (fun _ => ?_)
 refine wp_seq ?_
 refine c_region ?_
 refine l_pure S (p_eql rfl rfl) rfl rfl rfl ?_; clear S a; intro a S
 refine l_mv 1 S rfl ?_; clear S a; intro a S
 refine l_nil ?_
 refine e_then ?_
 refine c_cond (b := false) S rfl (fun h => by cases h) (fun _ => ?_)
 refine wp_seq ?_
 refine c_region ?_
 refine l_pure S (p_eql rfl rfl) rfl rfl rfl ?_; clear S a; intro a S
 refine l_mv 1 S rfl ?_; clear S a; intro a S
 refine l_nil ?_
 refine e_then ?_
 refine c_cond (b := false) S rfl (fun h => by cases h) (fun _ => ?_)
 refine wp_seq ?_
 refine c_region ?_
 refine l_pure S (p_eql rfl rfl) rfl rfl rfl ?_; clear S a; intro a S
 refine l_mv 1 S rfl ?_; clear S a; intro a S
 refine l_nil ?_
 refine e_then ?_
 refine c_cond (b := false) S rfl (fun h => by cases h) (fun _ => ?_)
 refine wp_seq ?_
 refine c_region ?_
 refine l_pure S (p_eql rfl rfl) rfl rfl rfl ?_; clear S a; intro a S
 refine l_mv 1 S rfl ?_; clear S a; intro a S
 refine l_nil ?_
 refine e_then ?_
 refine c_cond (b := false) S rfl (fun h => by cases h) (fun _ => ?_)
 refine wp_seq ?_
 refine c_region ?_
 refine l_pure S (p_eql rfl rfl) rfl rfl rfl ?_; clear S a; intro a S
 refine l_mv 1 S rfl ?_; clear S a; intro a S
 refine l_nil ?_
 refine e_then ?_
 refine c_cond (b := false) S rfl (fun h => by cases h) (fun _ => ?_)
 refine wp_seq ?_
 refine c_region ?_
 refine l_pure S (p_eql rfl rfl) rfl rfl rfl ?_; clear S a; intro a S
 refine l_mv 1 S rfl ?_; clear S a; intro a S
 refine l_nil ?_
 refine e_then ?_
 refine c_cond (b := false) S rfl (fun h => by cases h) (fun _ => ?_)
 refine wp_seq ?_
 refine c_region ?_
 refine l_pure S (p_eql rfl rfl) rfl rfl rfl ?_; clear S a; intro a S
 refine l_mv 1 S rfl ?_; clear S a; intro a S
 refine l_nil ?_
 refine e_then ?_
 refine c_cond (b := true) S rfl (fun _ => ?_) (fun h => by cases h)
 refine wp_seq ?_
 refine wp_seq ?_
 refine c_region ?_
 refine l_mv 1 S rfl ?_; clear S a; intro a S
 refine l_nil ?_
 refine e_then ?_
 refine c_cond (b := false) S rfl (fun h => by cases h) (fun _ => ?_)
 refine wp_skip ?_
 refine e_then ?_
 refine wp_seq ?_
 refine c_region ?_
 refine l_pure S (p_fieldAddr rfl (fun w => fa24_1 w _ _)) rfl rfl rfl ?_; clear S a; intro a S
 refine l_read S H (r_load rfl List.mem_cons_self rfl (fun w hc => ld1 ag9 hc)) rfl rfl rfl ?_; clear S a; intro a S
 refine l_pure S (p_fieldAddr rfl (fun w => fa24_5 w _ _)) rfl rfl rfl ?_; clear S a; intro a S
 refine l_read S H (r_load rfl List.mem_cons_self rfl (fun w hc => ld1 ag9 hc)) rfl rfl rfl ?_; clear S a; intro a S
 refine l_pure S (p_bld (ps := [(0, .tmp 77), (1, .tmp 79)]) rfl (bld75_0_1 _ _)) rfl rfl rfl ?_; clear S a; intro a S
 refine l_pure S (p_iface rfl (fun w => mi75 w _ _)) rfl rfl rfl ?_; clear S a; intro a S
 refine l_mv 2 S rfl ?_; clear S a; intro a S
 refine l_nil ?_
 refine e_then ?_
 refine wp_ret ?_
 refine e_in_ret ?_
 refine e_then_ret ?_
 replace H : HH B wb _ L0 := H.sub (.cons _ (.refl _))
 exact r_ret2 S rfl rfl rfl ⟨_, [], rfl, ⟨75, _, _, _, rfl, fun w => me75 w _, fun w => nl75 w _, Tryz.func125, rfl, rfl, fun wb w0 B L0 hs go bp b l ls hE ht hT H hl => vstE_ wb w0 B (ls ++ L0) go b _ _ h3 H⟩, HH.app H (by simp)⟩
theorem state_nil (wb w0 : World) (B : Nat) (L0 : dc.Bk) (H : HH B wb w0 L0) : Calls Tryz.prog 15 #[.nilIface] w0 fun e w' => e = .returned (.int .i64 0) ∧ HH B wb w' L0 := by
 refine c_enter (args := [.nilIface]) (k := 22) Tryz.func15 rfl rfl rfl (fun a S => ?_)
 refine wp_seq ?_
 refine c_region ?_
 refine l_mv 1 S rfl ?_; clear S a; intro a S
 refine l_nil ?_
 refine e_then ?_
 refine wp_seq ?_
 refine wp_seq ?_
 refine c_region ?_
 refine l_mv 1 S rfl ?_; clear S a; intro a S
 refine l_pure S (p_nilnil mi44 rfl) rfl rfl rfl ?_; clear S a; intro a S
 refine l_nil ?_
 refine e_then ?_
 refine c_cond (b := true) S rfl (fun _ => ?_) (fun h => by cases h)
 refine wp_seq ?_
 refine c_region ?_
 refine l_mv 1 S rfl ?_; clear S a; intro a S
 refine l_nil ?_
 refine e_then ?_
 refine wp_ret ?_
 refine e_then_ret ?_
 exact r_ret1 S rfl rfl ⟨rfl, H⟩
theorem state_E (wb w0 : World) (B : Nat) (L0 : dc.Bk) (pe : Addr) (H : HH B wb w0 L0) : Calls Tryz.prog 15 #[.iface 104 (.agg #[.iface 221 (.pointer (some pe))])] w0 fun e w' => e = .returned (.int .i64 1) ∧ HH B wb w' L0 := by
 refine c_enter (args := [.iface 104 (.agg #[.iface 221 (.pointer (some pe))])]) (k := 22) Tryz.func15 rfl rfl rfl (fun a S => ?_)
 refine wp_seq ?_
 refine c_region ?_
 refine l_mv 1 S rfl ?_; clear S a; intro a S
 refine l_nil ?_
 refine e_then ?_
 refine wp_seq ?_
 refine wp_seq ?_
 refine c_region ?_
 refine l_mv 1 S rfl ?_; clear S a; intro a S
 refine l_pure S (p_ifnil mi44 rfl rfl) rfl rfl rfl ?_; clear S a; intro a S
 refine l_nil ?_
 refine e_then ?_
 refine c_cond (b := false) S rfl (fun h => by cases h) (fun _ => ?_)
 refine wp_skip ?_
 refine e_then ?_
 refine wp_seq ?_
 refine c_region ?_
 refine l_mv 1 S rfl ?_; clear S a; intro a S
 refine l_pure S (p_ta rfl (fun w => taU w _)) rfl rfl rfl ?_; clear S a; intro a S
 refine l_mv 3 S rfl ?_; clear S a; intro a S
 refine l_alloc (cs := #[.nilIface]) S H rfl (fun w => al zv104) rfl rfl rfl ?_; clear S a H; intro g4 w a H S
 refine l_storeAll (vs := [.iface 221 (.pointer (some pe))]) S H rfl rfl rfl sz104 .here rfl (fun v hv => by simp only [List.mem_cons, List.not_mem_nil, or_false] at hv; rcases hv with rfl <;> rfl) rfl rfl ?_; clear S a H; intro w a H S
 refine l_mv 1 S rfl ?_; clear S a; intro a S
 refine l_nil ?_
 refine e_then ?_
 refine wp_seq ?_
 refine wp_seq ?_
 refine c_region ?_
 refine l_mv 1 S rfl ?_; clear S a; intro a S
 refine l_pure S (p_not rfl) rfl rfl rfl ?_; clear S a; intro a S
 refine l_nil ?_
 refine e_then ?_
 refine c_cond (b := false) S rfl (fun h => by cases h) (fun _ => ?_)
 refine wp_skip ?_
 refine e_then ?_
 refine wp_seq ?_
 refine wp_seq ?_
 refine c_region ?_
 refine l_pure S (p_fieldAddr rfl (fun w => fa104_0 w _ _)) rfl rfl rfl ?_; clear S a; intro a S
 refine l_read S H (r_load rfl List.mem_cons_self rfl (fun w hc => ld1 ag44 hc)) rfl rfl rfl ?_; clear S a; intro a S
 refine l_nil ?_
 refine e_then ?_
 refine wp_block ?_
 refine wp_seq ?_
 refine c_region ?_
 refine l_pure S (p_ta rfl (fun w => taS w _)) rfl rfl rfl ?_; clear S a; intro a S
 refine l_mv 2 S rfl ?_; clear S a; intro a S
 refine l_pure S (p_ta rfl (fun w => taB w _)) rfl rfl rfl ?_; clear S a; intro a S
 refine l_mv 2 S rfl ?_; clear S a; intro a S
 refine l_pure S (p_pick_f rfl rfl rfl) rfl rfl rfl ?_; clear S a; intro a S
 refine l_nil ?_
 refine e_then ?_
 refine c_cond (b := false) S rfl (fun h => by cases h) (fun _ => ?_)
 refine wp_skip ?_
 refine e_in 0 ?_
 refine e_then ?_
 refine wp_seq ?_
 refine c_region ?_
 refine l_mv 1 S rfl ?_; clear S a; intro a S
 refine l_nil ?_
 refine e_then ?_
 refine wp_ret ?_
 exact r_ret1 S rfl rfl ⟨rfl, H.tail⟩
theorem str0_ (wb w0 : World) (B : Nat) (L0 : dc.Bk) (b : Nat) (H : HH B wb w0 ((b, .cells #[.slice none 0 0, .int .i64 0, .int .i8 0] 38 (0, 0)) :: L0)) : Calls Tryz.prog 14 #[.pointer (some ⟨b, 0, none⟩)] w0 fun e w' => e = .returned (.string (strOfNums [])) ∧ HH B wb w' ((b, .cells #[.slice none 0 0, .int .i64 0, .int .i8 0] 38 (0, 0)) :: L0) := by
 refine c_enter (args := [.pointer (some ⟨b, 0, none⟩)]) (k := 14) Tryz.func14 rfl rfl rfl (fun a S => ?_)
 refine wp_seq ?_
 refine c_region ?_
 refine l_mv 1 S rfl ?_; clear S a; intro a S
 refine l_nil ?_
 refine e_then ?_
 refine wp_seq ?_
 refine wp_seq ?_
 refine c_region ?_
 refine l_mv 1 S rfl ?_; clear S a; intro a S
 refine l_pure S (p_ptrnil Tryz.underlying46 rfl rfl) rfl rfl rfl ?_; clear S a; intro a S
 refine l_nil ?_
 refine e_then ?_
 refine c_cond (b := false) S rfl (fun h => by cases h) (fun _ => ?_)
 refine wp_skip ?_
 refine e_then ?_
 refine wp_seq ?_
 refine d_start (id := 3) [] 11 #[false, false, false, false, false, false, false, false, false, false, false] H rfl rfl rfl (fun w H => ?_)
 refine d_mv [0, 1, 4, 5] #[true, true, false, false, true, true, false, false, false, false, false] S rfl (by kernel_rfl) (fun _ _ _ _ _ h => h) ?_; clear S a; intro a S
 refine d_pure (i := 2) #[true, true, true, false, true, true, false, false, false, false, false] S rfl (p_fieldAddr rfl (fun w => fa38_0 w _ _)) (wanted_none rfl) rfl rfl (by kernel_rfl) (fun _ _ _ h => h) ?_; clear S a; intro a S
 refine d_read (i := 3) #[true, true, true, true, true, true, false, false, false, false, false] S H rfl (r_load rfl List.mem_cons_self rfl (fun w hc => ld1 ag34 hc)) (wanted_none rfl) rfl rfl (by kernel_rfl) (fun _ _ _ h => h) ?_; clear S a; intro a S
 refine d_pure (i := 6) #[true, true, true, true, true, true, true, false, false, false, false] S rfl (p_fieldAddr rfl (fun w => fa38_1 w _ _)) (wanted_none rfl) rfl rfl (by kernel_rfl) (fun _ _ _ h => h) ?_; clear S a; intro a S
 refine d_read (i := 7) #[true, true, true, true, true, true, true, true, false, false, false] S H rfl (r_load rfl List.mem_cons_self rfl (fun w hc => ld1 ag3 hc)) (wanted_none rfl) rfl rfl (by kernel_rfl) (fun _ _ _ h => h) ?_; clear S a; intro a S
 refine d_pure (i := 8) #[true, true, true, true, true, true, true, true, true, false, false] S rfl (p_slice (v := .slice none ([] : List Int).length 0) rfl (o_some rfl) (fun _ _ => o_none) (fun _ _ => o_none) (fun w => sl_lo (m := 0) Tryz.underlying34 sz5 rfl (Nat.zero_le _))) (wanted_none rfl) rfl rfl (by kernel_rfl) (fun _ _ _ h => h) ?_; clear S a; intro a S
 refine d_read (i := 9) #[true, true, true, true, true, true, true, true, true, true, false] S H rfl (r_str (l := []) rfl Tryz.underlying34 Tryz.underlying5 Tryz.underlying9 (fun w H => ⟨rfl, by decide, fun h => absurd h (by decide)⟩)) (wanted_none rfl) rfl rfl (by kernel_rfl) (fun _ _ _ h => h) ?_; clear S a; intro a S
 refine d_mv [10] #[true, true, true, true, true, true, true, true, true, true, true] S rfl (by kernel_rfl) (fun _ _ _ _ _ h => h) ?_; clear S a; intro a S
 refine d_done (by kernel_rfl) ?_
 refine e_then ?_
 refine wp_ret ?_
 exact r_ret1 S rfl rfl ⟨rfl, H⟩
theorem idle11 (p0 : Addr) (p1 : Addr) (w : World) :
  CallsD Tryz.prog 11 #[.pointer (some p0), .pointer (some p1)] .returning w fun e u' w' => e = .returned (.tuple #[]) ∧ u' = .returning ∧ w' = w := by
 refine callsD_of_wpS Tryz.func11 rfl fun c₀ cs hu => ?_
 apply wpS_seq
 apply wpS_region
 simp [wpOpsS, go_sem, recoverD, hu, Tryz.ntmps11, Exit.thenS]
 refine wpS_cond (t := false) (by simp [Act.eval, Array.replicate]) ?_
 simp only [Bool.false_eq_true, if_false]
 refine wpS_of_wp (wp_skip ?_)
 cases c₀
 simp_all [bodyPostS, results, Tryz.results11]
set_option maxHeartbeats 1000000 in
theorem write_ (w0 : World) (ht0 : Lib.TabBelow Tryz.prog w0.heap.size w0 "internal/strconv.uint64pow10" .u64 Lib.pow10Tab) (hT0 : fz.PTab 3 w0.heap.size w0) (K : Int) (sv : ByteArray) (nv : Int) (dv : Nat) (Bo : Bool) (Fm : ByteArray) (Num : Int) (St : Bool) (ab : Bool) (X : List Int) (hX : 0 < X.length) (hmar : ∀ (wb w0 : World) (B : Nat) (L0 : List (Nat × Obj)), HH B wb w0 L0 → Calls Tryz.prog 12 #[.agg #[.int .i64 K, .string sv, .int .i64 nv, .float .f64 dv, .bool Bo, .string Fm, .int .i64 Num, .bool St], .bool ab] w0 fun e w' => ∃ (iv : Value) (ow : List (Nat × Obj)), e = .returned (.tuple #[iv, .bool true]) ∧ MRun iv ow X ∧ HH B wb w' (ow ++ L0)) : Calls Tryz.prog 6 #[.agg #[.int .i64 K, .string sv, .int .i64 nv, .float .f64 dv, .bool Bo, .string Fm, .int .i64 Num, .bool St], .bool ab] w0 fun e w' => e = .returned (.tuple #[.string (strOfNums X), .int .i64 0]) ∧ Below w0.heap.size w0 w' := by
 obtain ⟨B, hBw⟩ : ∃ B, B = w0.heap.size := ⟨_, rfl⟩
 obtain ⟨wb, hwb⟩ : ∃ wb, wb = w0 := ⟨_, rfl⟩
 obtain ⟨L0, hL0⟩ : ∃ L0 : List (Nat × Obj), L0 = [] := ⟨_, rfl⟩
 have H : HH B wb w0 L0 := by subst hBw hwb hL0; exact HH.start _
 have ht : Lib.TabBelow Tryz.prog B wb "internal/strconv.uint64pow10" .u64 Lib.pow10Tab := by subst hBw hwb; exact ht0
 have hT : fz.PTab 3 B wb := by subst hBw hwb; exact hT0
 refine c_enter_d (args := [.agg #[.int .i64 K, .string sv, .int .i64 nv, .float .f64 dv, .bool Bo, .string Fm, .int .i64 Num, .bool St], .bool ab]) (k := 27) Tryz.func6 rfl rfl rfl (fun a S => ?_)
 refine wp_seq ?_
 refine c_region ?_
 refine l_box (cs := #[.int .i64 K, .string sv, .int .i64 nv, .float .f64 dv, .bool Bo, .string Fm, .int .i64 Num, .bool St]) S H rfl rfl (fun w => bx) rfl rfl rfl ?_; clear S a H; intro g1 w a H S
 refine l_alloc (cs := #[.string ⟨#[]⟩]) S H rfl (fun w => al zv9) rfl rfl rfl ?_; clear S a H; intro gs w a H S
 refine l_alloc (cs := #[.int .i64 0]) S H rfl (fun w => al zv3) rfl rfl rfl ?_; clear S a H; intro gi w a H S
 refine l_nil ?_
 refine e_then ?_
 refine wp_seq ?_
 refine c_region ?_
 refine l_pure S (p_func rfl rfl) rfl rfl rfl ?_; clear S a; intro a S
 refine l_defer (xs := []) (us := []) (vs := []) S rfl rfl rfl rfl rfl ?_; clear S a; intro a S
 refine l_nil ?_
 refine e_then ?_
 refine wp_seq ?_
 refine c_region ?_
 refine l_alloc (cs := #[.slice none 0 0, .int .i64 0, .int .i8 0]) S H rfl (fun w => al zv38) rfl rfl rfl ?_; clear S a H; intro b w a H S
 refine l_nil ?_
 refine e_then ?_
 refine wp_seq ?_
 refine c_region ?_
 refine l_read S H (r_loadn (m := 8) (vs := [.int .i64 K, .string sv, .int .i64 nv, .float .f64 dv, .bool Bo, .string Fm, .int .i64 Num, .bool St]) rfl (List.mem_cons_of_mem _ (List.mem_cons_of_mem _ (List.mem_cons_of_mem _ List.mem_cons_self))) ag24 sz24 rfl rfl) rfl rfl rfl ?_; clear S a; intro a S
 refine l_mv 1 S rfl ?_; clear S a; intro a S
 have hcon := hmar wb _ B _ H
 refine l_call S rfl rfl Tryz.func12 rfl rfl (hcon) rfl rfl rfl ?_
 rintro e w ⟨iv, owm, rfl, hM, hH⟩
 refine ⟨_, rfl, ?_⟩; clear S a; intro a S
 clear H hcon; have H := hH; clear hH
 obtain ⟨t, f, fn, rv, rfl, hme, hnl, hfn, hnm, hbd, hout⟩ := hM
 refine l_mv 5 S rfl ?_; clear S a; intro a S
 refine l_nil ?_
 refine e_then ?_
 refine wp_seq ?_
 refine wp_seq ?_
 refine c_region ?_
 refine l_mv 1 S rfl ?_; clear S a; intro a S
 refine l_pure S (p_not rfl) rfl rfl rfl ?_; clear S a; intro a S
 refine l_nil ?_
 refine e_then ?_
 refine c_cond (b := false) S rfl (fun h => by cases h) (fun _ => ?_)
 refine wp_skip ?_
 refine e_then ?_
 refine wp_seq ?_
 refine d_start (id := 6) [6] 8 #[false, false, false, false, false, false, false, false] H rfl rfl rfl (fun w H => ?_)
 refine d_pure (i := 0) #[true, false, false, false, false, false, false, false] S rfl (p_move rfl) (wanted_none rfl) rfl rfl (by kernel_rfl) (hq_d (fun t => by simp [results, Tryz.results6, Array.getElem?_setIfInBounds])) ?_; clear S a; intro a S
 refine d_pure (i := 1) #[true, true, false, false, false, false, false, false] S rfl (p_iface rfl (fun w => mk46 w _)) (wanted_none rfl) rfl rfl (by kernel_rfl) (hq_d (fun t => by simp [results, Tryz.results6, Array.getElem?_setIfInBounds])) ?_; clear S a; intro a S
 refine d_pure (i := 3) #[true, true, false, true, false, false, false, false] S rfl (p_func rfl rfl) (wanted_none rfl) rfl rfl (by kernel_rfl) (hq_d (fun t => by simp [results, Tryz.results6, Array.getElem?_setIfInBounds])) ?_; clear S a; intro a S
 refine d_pure (i := 4) #[true, true, false, true, true, false, false, false] S rfl (mw.p_nilCheckM rfl hnl) (wanted_none rfl) rfl rfl (by kernel_rfl) (hq_d (fun t => by simp [results, Tryz.results6, Array.getElem?_setIfInBounds])) ?_; clear S a; intro a S
 refine d_pure (i := 5) #[true, true, false, true, true, true, false, false] S rfl (p_move rfl) (wanted_none rfl) rfl rfl (by kernel_rfl) (hq_d (fun t => by simp [results, Tryz.results6, Array.getElem?_setIfInBounds])) ?_; clear S a; intro a S
 have hcon := wr.pl.opts_ wb _ B _ H
 refine d_call (i := 2) #[true, true, true, true, true, true, false, false] S rfl rfl rfl Tryz.func13 rfl rfl hcon (wanted_none rfl) rfl rfl (by kernel_rfl) rfl ?_
 rintro e w ⟨go, bp, br, rfl, hH⟩; refine ⟨_, rfl, hH.tail.tail, ?_⟩; clear hcon H; have H := hH; clear hH; clear S a; intro a S
 replace H : HH B wb _ ((go, .cells #[.func (.func 23) #[.pointer (some ⟨bp, 0, none⟩)] #[], .func (.func 24) #[.pointer (some ⟨bp, 0, none⟩)] #[], .func (.func 25) #[.pointer (some ⟨br, 0, none⟩)] #[], .func (.func 26) #[] #[], .func (.func 28) #[] #[], .bool false, .bool false] 102 (0, 0)) :: ((bp, .cells #[.int .i64 0, .int .i64 10000000, .slice none 0 0] 122 (0, 0)) :: (owm ++ ((b, .cells #[.slice none 0 0, .int .i64 0, .int .i8 0] 38 (0, 0)) :: ((gi, .cells #[.int .i64 0] 3 (0, 0)) :: ((gs, .cells #[.string ⟨#[]⟩] 9 (0, 0)) :: ((g1, .cells #[.int .i64 K, .string sv, .int .i64 nv, .float .f64 dv, .bool Bo, .string Fm, .int .i64 Num, .bool St] 24 (0, 0)) :: L0))))))) := H
 replace H : HH B wb _ ((b, .cells #[.slice none 0 0, .int .i64 0, .int .i8 0] 38 (0, 0)) :: ((go, .cells #[.func (.func 23) #[.pointer (some ⟨bp, 0, none⟩)] #[], .func (.func 24) #[.pointer (some ⟨bp, 0, none⟩)] #[], .func (.func 25) #[.pointer (some ⟨br, 0, none⟩)] #[], .func (.func 26) #[] #[], .func (.func 28) #[] #[], .bool false, .bool false] 102 (0, 0)) :: ((bp, .cells #[.int .i64 0, .int .i64 10000000, .slice none 0 0] 122 (0, 0)) :: (owm ++ ((gi, .cells #[.int .i64 0] 3 (0, 0)) :: ((gs, .cells #[.string ⟨#[]⟩] 9 (0, 0)) :: ((g1, .cells #[.int .i64 K, .string sv, .int .i64 nv, .float .f64 dv, .bool Bo, .string Fm, .int .i64 Num, .bool St] 24 (0, 0)) :: L0))))))) := HH.app (HH.front (L1 := ((go, .cells #[.func (.func 23) #[.pointer (some ⟨bp, 0, none⟩)] #[], .func (.func 24) #[.pointer (some ⟨bp, 0, none⟩)] #[], .func (.func 25) #[.pointer (some ⟨br, 0, none⟩)] #[], .func (.func 26) #[] #[], .func (.func 28) #[] #[], .bool false, .bool false] 102 (0, 0)) :: ((bp, .cells #[.int .i64 0, .int .i64 10000000, .slice none 0 0] 122 (0, 0)) :: owm))) (S := [(b, .cells #[.slice none 0 0, .int .i64 0, .int .i8 0] 38 (0, 0))]) (L2 := ((gi, .cells #[.int .i64 0] 3 (0, 0)) :: ((gs, .cells #[.string ⟨#[]⟩] 9 (0, 0)) :: ((g1, .cells #[.int .i64 K, .string sv, .int .i64 nv, .float .f64 dv, .bool Bo, .string Fm, .int .i64 Num, .bool St] 24 (0, 0)) :: L0)))) (HH.app H (by simp))) (by simp)
 replace H : HH B wb _ ((b, .cells #[.slice none 0 0, .int .i64 0, .int .i8 0] 38 (0, 0)) :: ((go, .cells #[.func (.func 23) #[.pointer (some ⟨bp, 0, none⟩)] #[], .func (.func 24) #[.pointer (some ⟨bp, 0, none⟩)] #[], .func (.func 25) #[.pointer (some ⟨br, 0, none⟩)] #[], .func (.func 26) #[] #[], .func (.func 28) #[] #[], .bool false, .bool false] 102 (0, 0)) :: ((bp, .cells #[.int .i64 0, .int .i64 10000000, .slice none 0 0] 122 (0, 0)) :: (owm ++ ((gi, .cells #[.int .i64 0] 3 (0, 0)) :: ((gs, .cells #[.string ⟨#[]⟩] 9 (0, 0)) :: ((g1, .cells #[.int .i64 K, .string sv, .int .i64 nv, .float .f64 dv, .bool Bo, .string Fm, .int .i64 Num, .bool St] 24 (0, 0)) :: L0))))))) := H
 replace H : HH B wb _ ((go, .cells #[.func (.func 23) #[.pointer (some ⟨bp, 0, none⟩)] #[], .func (.func 24) #[.pointer (some ⟨bp, 0, none⟩)] #[], .func (.func 25) #[.pointer (some ⟨br, 0, none⟩)] #[], .func (.func 26) #[] #[], .func (.func 28) #[] #[], .bool false, .bool false] 102 (0, 0)) :: ((bp, .cells #[.int .i64 0, .int .i64 10000000, .slice none 0 0] 122 (0, 0)) :: ((b, .cells #[.slice none 0 0, .int .i64 0, .int .i8 0] 38 (0, 0)) :: (owm ++ ((gi, .cells #[.int .i64 0] 3 (0, 0)) :: ((gs, .cells #[.string ⟨#[]⟩] 9 (0, 0)) :: ((g1, .cells #[.int .i64 K, .string sv, .int .i64 nv, .float .f64 dv, .bool Bo, .string Fm, .int .i64 Num, .bool St] 24 (0, 0)) :: L0))))))) := HH.app (HH.front (L1 := [(b, .cells #[.slice none 0 0, .int .i64 0, .int .i8 0] 38 (0, 0))]) (S := ((go, .cells #[.func (.func 23) #[.pointer (some ⟨bp, 0, none⟩)] #[], .func (.func 24) #[.pointer (some ⟨bp, 0, none⟩)] #[], .func (.func 25) #[.pointer (some ⟨br, 0, none⟩)] #[], .func (.func 26) #[] #[], .func (.func 28) #[] #[], .bool false, .bool false] 102 (0, 0)) :: [(bp, .cells #[.int .i64 0, .int .i64 10000000, .slice none 0 0] 122 (0, 0))])) (L2 := (owm ++ ((gi, .cells #[.int .i64 0] 3 (0, 0)) :: ((gs, .cells #[.string ⟨#[]⟩] 9 (0, 0)) :: ((g1, .cells #[.int .i64 K, .string sv, .int .i64 nv, .float .f64 dv, .bool Bo, .string Fm, .int .i64 Num, .bool St] 24 (0, 0)) :: L0))))) (HH.app H (by simp))) (by simp)
 have hE : ms.Env go bp b [] ((go, .cells #[.func (.func 23) #[.pointer (some ⟨bp, 0, none⟩)] #[], .func (.func 24) #[.pointer (some ⟨bp, 0, none⟩)] #[], .func (.func 25) #[.pointer (some ⟨br, 0, none⟩)] #[], .func (.func 26) #[] #[], .func (.func 28) #[] #[], .bool false, .bool false] 102 (0, 0)) :: ([(bp, .cells #[.int .i64 0, .int .i64 10000000, .slice none 0 0] 122 (0, 0))] ++ [(b, .cells #[(.slice none 0 0), .int .i64 0, .int .i8 0] 38 (0, 0))])) := ⟨br, _, _, .inl ⟨0, _, [], own_nil' 126 1, rfl⟩, .inl ⟨rfl, rfl⟩, rfl⟩
 have hcon := hout wb _ B (owm ++ ((gi, .cells #[.int .i64 0] 3 (0, 0)) :: ((gs, .cells #[.string ⟨#[]⟩] 9 (0, 0)) :: ((g1, .cells #[.int .i64 K, .string sv, .int .i64 nv, .float .f64 dv, .bool Bo, .string Fm, .int .i64 Num, .bool St] 24 (0, 0)) :: L0)))) (fun p hp => by simp [hp]) go bp b [] _ hE ht hT (HH.app (L' := ((go, .cells #[.func (.func 23) #[.pointer (some ⟨bp, 0, none⟩)] #[], .func (.func 24) #[.pointer (some ⟨bp, 0, none⟩)] #[], .func (.func 25) #[.pointer (some ⟨br, 0, none⟩)] #[], .func (.func 26) #[] #[], .func (.func 28) #[] #[], .bool false, .bool false] 102 (0, 0)) :: ([(bp, .cells #[.int .i64 0, .int .i64 10000000, .slice none 0 0] 122 (0, 0))] ++ [(b, .cells #[(.slice none 0 0), .int .i64 0, .int .i8 0] 38 (0, 0))])) ++ (owm ++ ((gi, .cells #[.int .i64 0] 3 (0, 0)) :: ((gs, .cells #[.string ⟨#[]⟩] 9 (0, 0)) :: ((g1, .cells #[.int .i64 K, .string sv, .int .i64 nv, .float .f64 dv, .bool Bo, .string Fm, .int .i64 Num, .bool St] 24 (0, 0)) :: L0))))) H rfl) (by simp)
 refine d_invoke_last (i := 6) #[true, true, true, true, true, true, true, false] S rfl rfl rfl rfl (hme _) hfn hnm hbd hcon (wanted_none rfl) rfl rfl (by kernel_rfl) rfl ?_
 rintro e w ⟨rfl, ls', hE', hH⟩
 refine ⟨_, rfl, ?_⟩; clear S a; intro a S; clear H hcon hE
 obtain ⟨br', po, bs, hp, hz, rfl⟩ := hE'
 rw [List.nil_append] at hz
 have H : HH B wb w ((go, .cells #[.func (.func 23) #[.pointer (some ⟨bp, 0, none⟩)] #[], .func (.func 24) #[.pointer (some ⟨bp, 0, none⟩)] #[], .func (.func 25) #[.pointer (some ⟨br', 0, none⟩)] #[], .func (.func 26) #[] #[], .func (.func 28) #[] #[], .bool false, .bool false] 102 (0, 0)) :: (po ++ (bs ++ (owm ++ ((gi, .cells #[.int .i64 0] 3 (0, 0)) :: ((gs, .cells #[.string ⟨#[]⟩] 9 (0, 0)) :: ((g1, .cells #[.int .i64 K, .string sv, .int .i64 nv, .float .f64 dv, .bool Bo, .string Fm, .int .i64 Num, .bool St] 24 (0, 0)) :: L0))))))) := HH.app hH (by simp)
 clear hH
 refine d_pure (i := 7) #[true, true, true, true, true, true, true, true] S rfl (p_assign rfl) (wanted_none rfl) rfl rfl (by kernel_rfl) (hq_d (fun t => by simp [results, Tryz.results6, Array.getElem?_setIfInBounds])) ?_; clear S a; intro a S
 refine d_done (by kernel_rfl) ?_
 refine e_then ?_
 refine wp_seq ?_
 refine c_region ?_
 replace H : HH B wb _ ((go, .cells #[.func (.func 23) #[.pointer (some ⟨bp, 0, none⟩)] #[], .func (.func 24) #[.pointer (some ⟨bp, 0, none⟩)] #[], .func (.func 25) #[.pointer (some ⟨br', 0, none⟩)] #[], .func (.func 26) #[] #[], .func (.func 28) #[] #[], .bool false, .bool false] 102 (0, 0)) :: (po ++ (bs ++ (owm ++ ((gi, .cells #[.int .i64 0] 3 (0, 0)) :: ((gs, .cells #[.string ⟨#[]⟩] 9 (0, 0)) :: ((g1, .cells #[.int .i64 K, .string sv, .int .i64 nv, .float .f64 dv, .bool Bo, .string Fm, .int .i64 Num, .bool St] 24 (0, 0)) :: L0))))))) := H
 replace H : HH B wb _ (bs ++ ((go, .cells #[.func (.func 23) #[.pointer (some ⟨bp, 0, none⟩)] #[], .func (.func 24) #[.pointer (some ⟨bp, 0, none⟩)] #[], .func (.func 25) #[.pointer (some ⟨br', 0, none⟩)] #[], .func (.func 26) #[] #[], .func (.func 28) #[] #[], .bool false, .bool false] 102 (0, 0)) :: (po ++ (owm ++ ((gi, .cells #[.int .i64 0] 3 (0, 0)) :: ((gs, .cells #[.string ⟨#[]⟩] 9 (0, 0)) :: ((g1, .cells #[.int .i64 K, .string sv, .int .i64 nv, .float .f64 dv, .bool Bo, .string Fm, .int .i64 Num, .bool St] 24 (0, 0)) :: L0))))))) := HH.app (HH.front (L1 := ((go, .cells #[.func (.func 23) #[.pointer (some ⟨bp, 0, none⟩)] #[], .func (.func 24) #[.pointer (some ⟨bp, 0, none⟩)] #[], .func (.func 25) #[.pointer (some ⟨br', 0, none⟩)] #[], .func (.func 26) #[] #[], .func (.func 28) #[] #[], .bool false, .bool false] 102 (0, 0)) :: po)) (S := bs) (L2 := (owm ++ ((gi, .cells #[.int .i64 0] 3 (0, 0)) :: ((gs, .cells #[.string ⟨#[]⟩] 9 (0, 0)) :: ((g1, .cells #[.int .i64 K, .string sv, .int .i64 nv, .float .f64 dv, .bool Bo, .string Fm, .int .i64 Num, .bool St] 24 (0, 0)) :: L0))))) (HH.app H (by simp))) (by simp)
 have hcon := wr.bb.str_ wb _ B _ b _ bs hz hX H
 refine l_call S rfl rfl Tryz.func14 rfl rfl (hcon) rfl rfl rfl ?_
 rintro e w ⟨rfl, hH⟩
 refine ⟨_, rfl, ?_⟩; clear S a; intro a S
 clear H hcon; have H := hH; clear hH
 refine l_mv 1 S rfl ?_; clear S a; intro a S
 refine l_call S rfl rfl Tryz.func15 rfl rfl (state_nil wb _ B _ H) rfl rfl rfl ?_
 rintro e w ⟨rfl, hH⟩
 refine ⟨_, rfl, ?_⟩; clear S a; intro a S
 clear H; have H := hH; clear hH
 refine l_store S H rfl rfl rfl (Upd.skip bs (.there (Upd.skip po (Upd.skip owm (.there .here))))) (by first | decide | simp [Value.cells]) (fun w u hc hz => st1 sz9 rfl hc hz) rfl rfl ?_; clear S a H; intro w a H S
 refine l_store S H rfl rfl rfl (Upd.skip bs (.there (Upd.skip po (Upd.skip owm .here)))) (by first | decide | simp [Value.cells]) (fun w u hc hz => st1 sz3 rfl hc hz) rfl rfl ?_; clear S a H; intro w a H S
 refine l_nil ?_
 refine e_then ?_
 refine wp_ret ?_
 exact r_door (v := .tuple #[.string (strOfNums X), .int .i64 0]) S (idle11 _ _) (invokes Tryz.func11 rfl rfl) (res_c2 rfl rfl rfl (lv ag9 H (List.mem_append_right _ (List.mem_cons_of_mem _ (List.mem_append_right _ (List.mem_append_right _ (List.mem_cons_of_mem _ List.mem_cons_self))))) rfl) (lv ag3 H (List.mem_append_right _ (List.mem_cons_of_mem _ (List.mem_append_right _ (List.mem_append_right _ List.mem_cons_self)))) rfl)) ⟨rfl, by have := H.below; rw [hBw, hwb] at this; exact this⟩
set_option maxHeartbeats 1000000 in
theorem writeE_ (w0 : World) (ht0 : Lib.TabBelow Tryz.prog w0.heap.size w0 "internal/strconv.uint64pow10" .u64 Lib.pow10Tab) (hT0 : fz.PTab 3 w0.heap.size w0) (K : Int) (sv : ByteArray) (nv : Int) (dv : Nat) (Bo : Bool) (Fm : ByteArray) (Num : Int) (St : Bool) (ab : Bool) (hmar : ∀ (wb w0 : World) (B : Nat) (L0 : List (Nat × Obj)), HH B wb w0 L0 → Calls Tryz.prog 12 #[.agg #[.int .i64 K, .string sv, .int .i64 nv, .float .f64 dv, .bool Bo, .string Fm, .int .i64 Num, .bool St], .bool ab] w0 fun e w' => ∃ (iv : Value) (ow : List (Nat × Obj)), e = .returned (.tuple #[iv, .bool true]) ∧ MRunE iv ow ∧ HH B wb w' (ow ++ L0)) : Calls Tryz.prog 6 #[.agg #[.int .i64 K, .string sv, .int .i64 nv, .float .f64 dv, .bool Bo, .string Fm, .int .i64 Num, .bool St], .bool ab] w0 fun e w' => e = .returned (.tuple #[.string (strOfNums []), .int .i64 1]) ∧ Below w0.heap.size w0 w' := by
 obtain ⟨B, hBw⟩ : ∃ B, B = w0.heap.size := ⟨_, rfl⟩
 obtain ⟨wb, hwb⟩ : ∃ wb, wb = w0 := ⟨_, rfl⟩
 obtain ⟨L0, hL0⟩ : ∃ L0 : List (Nat × Obj), L0 = [] := ⟨_, rfl⟩
 have H : HH B wb w0 L0 := by subst hBw hwb hL0; exact HH.start _
 have ht : Lib.TabBelow Tryz.prog B wb "internal/strconv.uint64pow10" .u64 Lib.pow10Tab := by subst hBw hwb; exact ht0
 have hT : fz.PTab 3 B wb := by subst hBw hwb; exact hT0
 refine c_enter_d (args := [.agg #[.int .i64 K, .string sv, .int .i64 nv, .float .f64 dv, .bool Bo, .string Fm, .int .i64 Num, .bool St], .bool ab]) (k := 27) Tryz.func6 rfl rfl rfl (fun a S => ?_)
 refine wp_seq ?_
 refine c_region ?_
 refine l_box (cs := #[.int .i64 K, .string sv, .int .i64 nv, .float .f64 dv, .bool Bo, .string Fm, .int .i64 Num, .bool St]) S H rfl rfl (fun w => bx) rfl rfl rfl ?_; clear S a H; intro g1 w a H S
 refine l_alloc (cs := #[.string ⟨#[]⟩]) S H rfl (fun w => al zv9) rfl rfl rfl ?_; clear S a H; intro gs w a H S
 refine l_alloc (cs := #[.int .i64 0]) S H rfl (fun w => al zv3) rfl rfl rfl ?_; clear S a H; intro gi w a H S
 refine l_nil ?_
 refine e_then ?_
 refine wp_seq ?_
 refine c_region ?_
 refine l_pure S (p_func rfl rfl) rfl rfl rfl ?_; clear S a; intro a S
 refine l_defer (xs := []) (us := []) (vs := []) S rfl rfl rfl rfl rfl ?_; clear S a; intro a S
 refine l_nil ?_
 refine e_then ?_
 refine wp_seq ?_
 refine c_region ?_
 refine l_alloc (cs := #[.slice none 0 0, .int .i64 0, .int .i8 0]) S H rfl (fun w => al zv38) rfl rfl rfl ?_; clear S a H; intro b w a H S
 refine l_nil ?_
 refine e_then ?_
 refine wp_seq ?_
 refine c_region ?_
 refine l_read S H (r_loadn (m := 8) (vs := [.int .i64 K, .string sv, .int .i64 nv, .float .f64 dv, .bool Bo, .string Fm, .int .i64 Num, .bool St]) rfl (List.mem_cons_of_mem _ (List.mem_cons_of_mem _ (List.mem_cons_of_mem _ List.mem_cons_self))) ag24 sz24 rfl rfl) rfl rfl rfl ?_; clear S a; intro a S
 refine l_mv 1 S rfl ?_; clear S a; intro a S
 have hcon := hmar wb _ B _ H
 refine l_call S rfl rfl Tryz.func12 rfl rfl (hcon) rfl rfl rfl ?_
 rintro e w ⟨iv, owm, rfl, hM, hH⟩
 refine ⟨_, rfl, ?_⟩; clear S a; intro a S
 clear H hcon; have H := hH; clear hH
 obtain ⟨t, f, fn, rv, rfl, hme, hnl, hfn, hnm, hbd, hout⟩ := hM
 refine l_mv 5 S rfl ?_; clear S a; intro a S
 refine l_nil ?_
 refine e_then ?_
 refine wp_seq ?_
 refine wp_seq ?_
 refine c_region ?_
 refine l_mv 1 S rfl ?_; clear S a; intro a S
 refine l_pure S (p_not rfl) rfl rfl rfl ?_; clear S a; intro a S
 refine l_nil ?_
 refine e_then ?_
 refine c_cond (b := false) S rfl (fun h => by cases h) (fun _ => ?_)
 refine wp_skip ?_
 refine e_then ?_
 refine wp_seq ?_
 refine d_start (id := 6) [6] 8 #[false, false, false, false, false, false, false, false] H rfl rfl rfl (fun w H => ?_)
 refine d_pure (i := 0) #[true, false, false, false, false, false, false, false] S rfl (p_move rfl) (wanted_none rfl) rfl rfl (by kernel_rfl) (hq_d (fun t => by simp [results, Tryz.results6, Array.getElem?_setIfInBounds])) ?_; clear S a; intro a S
 refine d_pure (i := 1) #[true, true, false, false, false, false, false, false] S rfl (p_iface rfl (fun w => mk46 w _)) (wanted_none rfl) rfl rfl (by kernel_rfl) (hq_d (fun t => by simp [results, Tryz.results6, Array.getElem?_setIfInBounds])) ?_; clear S a; intro a S
 refine d_pure (i := 3) #[true, true, false, true, false, false, false, false] S rfl (p_func rfl rfl) (wanted_none rfl) rfl rfl (by kernel_rfl) (hq_d (fun t => by simp [results, Tryz.results6, Array.getElem?_setIfInBounds])) ?_; clear S a; intro a S
 refine d_pure (i := 4) #[true, true, false, true, true, false, false, false] S rfl (mw.p_nilCheckM rfl hnl) (wanted_none rfl) rfl rfl (by kernel_rfl) (hq_d (fun t => by simp [results, Tryz.results6, Array.getElem?_setIfInBounds])) ?_; clear S a; intro a S
 refine d_pure (i := 5) #[true, true, false, true, true, true, false, false] S rfl (p_move rfl) (wanted_none rfl) rfl rfl (by kernel_rfl) (hq_d (fun t => by simp [results, Tryz.results6, Array.getElem?_setIfInBounds])) ?_; clear S a; intro a S
 have hcon := wr.pl.opts_ wb _ B _ H
 refine d_call (i := 2) #[true, true, true, true, true, true, false, false] S rfl rfl rfl Tryz.func13 rfl rfl hcon (wanted_none rfl) rfl rfl (by kernel_rfl) rfl ?_
 rintro e w ⟨go, bp, br, rfl, hH⟩; refine ⟨_, rfl, hH.tail.tail, ?_⟩; clear hcon H; have H := hH; clear hH; clear S a; intro a S
 replace H : HH B wb _ ((go, .cells #[.func (.func 23) #[.pointer (some ⟨bp, 0, none⟩)] #[], .func (.func 24) #[.pointer (some ⟨bp, 0, none⟩)] #[], .func (.func 25) #[.pointer (some ⟨br, 0, none⟩)] #[], .func (.func 26) #[] #[], .func (.func 28) #[] #[], .bool false, .bool false] 102 (0, 0)) :: ((bp, .cells #[.int .i64 0, .int .i64 10000000, .slice none 0 0] 122 (0, 0)) :: (owm ++ ((b, .cells #[.slice none 0 0, .int .i64 0, .int .i8 0] 38 (0, 0)) :: ((gi, .cells #[.int .i64 0] 3 (0, 0)) :: ((gs, .cells #[.string ⟨#[]⟩] 9 (0, 0)) :: ((g1, .cells #[.int .i64 K, .string sv, .int .i64 nv, .float .f64 dv, .bool Bo, .string Fm, .int .i64 Num, .bool St] 24 (0, 0)) :: L0))))))) := H
 replace H : HH B wb _ ((b, .cells #[.slice none 0 0, .int .i64 0, .int .i8 0] 38 (0, 0)) :: ((go, .cells #[.func (.func 23) #[.pointer (some ⟨bp, 0, none⟩)] #[], .func (.func 24) #[.pointer (some ⟨bp, 0, none⟩)] #[], .func (.func 25) #[.pointer (some ⟨br, 0, none⟩)] #[], .func (.func 26) #[] #[], .func (.func 28) #[] #[], .bool false, .bool false] 102 (0, 0)) :: ((bp, .cells #[.int .i64 0, .int .i64 10000000, .slice none 0 0] 122 (0, 0)) :: (owm ++ ((gi, .cells #[.int .i64 0] 3 (0, 0)) :: ((gs, .cells #[.string ⟨#[]⟩] 9 (0, 0)) :: ((g1, .cells #[.int .i64 K, .string sv, .int .i64 nv, .float .f64 dv, .bool Bo, .string Fm, .int .i64 Num, .bool St] 24 (0, 0)) :: L0))))))) := HH.app (HH.front (L1 := ((go, .cells #[.func (.func 23) #[.pointer (some ⟨bp, 0, none⟩)] #[], .func (.func 24) #[.pointer (some ⟨bp, 0, none⟩)] #[], .func (.func 25) #[.pointer (some ⟨br, 0, none⟩)] #[], .func (.func 26) #[] #[], .func (.func 28) #[] #[], .bool false, .bool false] 102 (0, 0)) :: ((bp, .cells #[.int .i64 0, .int .i64 10000000, .slice none 0 0] 122 (0, 0)) :: owm))) (S := [(b, .cells #[.slice none 0 0, .int .i64 0, .int .i8 0] 38 (0, 0))]) (L2 := ((gi, .cells #[.int .i64 0] 3 (0, 0)) :: ((gs, .cells #[.string ⟨#[]⟩] 9 (0, 0)) :: ((g1, .cells #[.int .i64 K, .string sv, .int .i64 nv, .float .f64 dv, .bool Bo, .string Fm, .int .i64 Num, .bool St] 24 (0, 0)) :: L0)))) (HH.app H (by simp))) (by simp)
 replace H : HH B wb _ ((b, .cells #[.slice none 0 0, .int .i64 0, .int .i8 0] 38 (0, 0)) :: ((go, .cells #[.func (.func 23) #[.pointer (some ⟨bp, 0, none⟩)] #[], .func (.func 24) #[.pointer (some ⟨bp, 0, none⟩)] #[], .func (.func 25) #[.pointer (some ⟨br, 0, none⟩)] #[], .func (.func 26) #[] #[], .func (.func 28) #[] #[], .bool false, .bool false] 102 (0, 0)) :: ((bp, .cells #[.int .i64 0, .int .i64 10000000, .slice none 0 0] 122 (0, 0)) :: (owm ++ ((gi, .cells #[.int .i64 0] 3 (0, 0)) :: ((gs, .cells #[.string ⟨#[]⟩] 9 (0, 0)) :: ((g1, .cells #[.int .i64 K, .string sv, .int .i64 nv, .float .f64 dv, .bool Bo, .string Fm, .int .i64 Num, .bool St] 24 (0, 0)) :: L0))))))) := H
 replace H : HH B wb _ ((go, .cells #[.func (.func 23) #[.pointer (some ⟨bp, 0, none⟩)] #[], .func (.func 24) #[.pointer (some ⟨bp, 0, none⟩)] #[], .func (.func 25) #[.pointer (some ⟨br, 0, none⟩)] #[], .func (.func 26) #[] #[], .func (.func 28) #[] #[], .bool false, .bool false] 102 (0, 0)) :: ((bp, .cells #[.int .i64 0, .int .i64 10000000, .slice none 0 0] 122 (0, 0)) :: ((b, .cells #[.slice none 0 0, .int .i64 0, .int .i8 0] 38 (0, 0)) :: (owm ++ ((gi, .cells #[.int .i64 0] 3 (0, 0)) :: ((gs, .cells #[.string ⟨#[]⟩] 9 (0, 0)) :: ((g1, .cells #[.int .i64 K, .string sv, .int .i64 nv, .float .f64 dv, .bool Bo, .string Fm, .int .i64 Num, .bool St] 24 (0, 0)) :: L0))))))) := HH.app (HH.front (L1 := [(b, .cells #[.slice none 0 0, .int .i64 0, .int .i8 0] 38 (0, 0))]) (S := ((go, .cells #[.func (.func 23) #[.pointer (some ⟨bp, 0, none⟩)] #[], .func (.func 24) #[.pointer (some ⟨bp, 0, none⟩)] #[], .func (.func 25) #[.pointer (some ⟨br, 0, none⟩)] #[], .func (.func 26) #[] #[], .func (.func 28) #[] #[], .bool false, .bool false] 102 (0, 0)) :: [(bp, .cells #[.int .i64 0, .int .i64 10000000, .slice none 0 0] 122 (0, 0))])) (L2 := (owm ++ ((gi, .cells #[.int .i64 0] 3 (0, 0)) :: ((gs, .cells #[.string ⟨#[]⟩] 9 (0, 0)) :: ((g1, .cells #[.int .i64 K, .string sv, .int .i64 nv, .float .f64 dv, .bool Bo, .string Fm, .int .i64 Num, .bool St] 24 (0, 0)) :: L0))))) (HH.app H (by simp))) (by simp)
 have hE : ms.Env go bp b [] ((go, .cells #[.func (.func 23) #[.pointer (some ⟨bp, 0, none⟩)] #[], .func (.func 24) #[.pointer (some ⟨bp, 0, none⟩)] #[], .func (.func 25) #[.pointer (some ⟨br, 0, none⟩)] #[], .func (.func 26) #[] #[], .func (.func 28) #[] #[], .bool false, .bool false] 102 (0, 0)) :: ([(bp, .cells #[.int .i64 0, .int .i64 10000000, .slice none 0 0] 122 (0, 0))] ++ [(b, .cells #[(.slice none 0 0), .int .i64 0, .int .i8 0] 38 (0, 0))])) := ⟨br, _, _, .inl ⟨0, _, [], own_nil' 126 1, rfl⟩, .inl ⟨rfl, rfl⟩, rfl⟩
 have hcon := hout wb _ B (owm ++ ((gi, .cells #[.int .i64 0] 3 (0, 0)) :: ((gs, .cells #[.string ⟨#[]⟩] 9 (0, 0)) :: ((g1, .cells #[.int .i64 K, .string sv, .int .i64 nv, .float .f64 dv, .bool Bo, .string Fm, .int .i64 Num, .bool St] 24 (0, 0)) :: L0)))) (fun p hp => by simp [hp]) go bp b [] _ hE ht hT (HH.app (L' := ((go, .cells #[.func (.func 23) #[.pointer (some ⟨bp, 0, none⟩)] #[], .func (.func 24) #[.pointer (some ⟨bp, 0, none⟩)] #[], .func (.func 25) #[.pointer (some ⟨br, 0, none⟩)] #[], .func (.func 26) #[] #[], .func (.func 28) #[] #[], .bool false, .bool false] 102 (0, 0)) :: ([(bp, .cells #[.int .i64 0, .int .i64 10000000, .slice none 0 0] 122 (0, 0))] ++ [(b, .cells #[(.slice none 0 0), .int .i64 0, .int .i8 0] 38 (0, 0))])) ++ (owm ++ ((gi, .cells #[.int .i64 0] 3 (0, 0)) :: ((gs, .cells #[.string ⟨#[]⟩] 9 (0, 0)) :: ((g1, .cells #[.int .i64 K, .string sv, .int .i64 nv, .float .f64 dv, .bool Bo, .string Fm, .int .i64 Num, .bool St] 24 (0, 0)) :: L0))))) H rfl) (by simp)
 refine d_invoke_last (i := 6) #[true, true, true, true, true, true, true, false] S rfl rfl rfl rfl (hme _) hfn hnm hbd hcon (wanted_none rfl) rfl rfl (by kernel_rfl) rfl ?_
 rintro e w ⟨pe, rfl, hH⟩
 refine ⟨_, rfl, ?_⟩; clear S a; intro a S; clear H hcon hE; replace hH : HH B wb w ((go, .cells #[.func (.func 23) #[.pointer (some ⟨bp, 0, none⟩)] #[], .func (.func 24) #[.pointer (some ⟨bp, 0, none⟩)] #[], .func (.func 25) #[.pointer (some ⟨br, 0, none⟩)] #[], .func (.func 26) #[] #[], .func (.func 28) #[] #[], .bool false, .bool false] 102 (0, 0)) :: (bp, .cells #[.int .i64 0, .int .i64 10000000, .slice none 0 0] 122 (0, 0)) :: (b, .cells #[(.slice none 0 0), .int .i64 0, .int .i8 0] 38 (0, 0)) :: (owm ++ ((gi, .cells #[.int .i64 0] 3 (0, 0)) :: ((gs, .cells #[.string ⟨#[]⟩] 9 (0, 0)) :: ((g1, .cells #[.int .i64 K, .string sv, .int .i64 nv, .float .f64 dv, .bool Bo, .string Fm, .int .i64 Num, .bool St] 24 (0, 0)) :: L0))))) := hH; have H := hH.tail.tail; clear hH
 refine d_pure (i := 7) #[true, true, true, true, true, true, true, true] S rfl (p_assign rfl) (wanted_none rfl) rfl rfl (by kernel_rfl) (hq_d (fun t => by simp [results, Tryz.results6, Array.getElem?_setIfInBounds])) ?_; clear S a; intro a S
 refine d_done (by kernel_rfl) ?_
 refine e_then ?_
 refine wp_seq ?_
 refine c_region ?_
 have hcon := str0_ wb _ B _ b H
 refine l_call S rfl rfl Tryz.func14 rfl rfl (hcon) rfl rfl rfl ?_
 rintro e w ⟨rfl, hH⟩
 refine ⟨_, rfl, ?_⟩; clear S a; intro a S
 clear H hcon; have H := hH; clear hH
 refine l_mv 1 S rfl ?_; clear S a; intro a S
 refine l_call S rfl rfl Tryz.func15 rfl rfl (state_E wb _ B _ pe H) rfl rfl rfl ?_
 rintro e w ⟨rfl, hH⟩
 refine ⟨_, rfl, ?_⟩; clear S a; intro a S
 clear H; have H := hH; clear hH
 refine l_store S H rfl rfl rfl (.there (Upd.skip owm (.there .here))) (by first | decide | simp [Value.cells]) (fun w u hc hz => st1 sz9 rfl hc hz) rfl rfl ?_; clear S a H; intro w a H S
 refine l_store S H rfl rfl rfl (.there (Upd.skip owm .here)) (by first | decide | simp [Value.cells]) (fun w u hc hz => st1 sz3 rfl hc hz) rfl rfl ?_; clear S a H; intro w a H S
 refine l_nil ?_
 refine e_then ?_
 refine wp_ret ?_
 exact r_door (v := .tuple #[.string (strOfNums []), .int .i64 1]) S (idle11 _ _) (invokes Tryz.func11 rfl rfl) (res_c2 rfl rfl rfl (lv ag9 H (List.mem_cons_of_mem _ (List.mem_append_right _ (List.mem_cons_of_mem _ List.mem_cons_self))) rfl) (lv ag3 H (List.mem_cons_of_mem _ (List.mem_append_right _ List.mem_cons_self)) rfl)) ⟨rfl, by have := H.below; rw [hBw, hwb] at this; exact this⟩
end wi
end Go.Proofs.YtfbfmcjjohiikaaGreatDoor.mw
end
section
namespace Go.Proofs.YtfbfmcjjohiikaaGreatDoor.mw
open Go.Proofs.YtfbfmcjjohiikaaGreatDoor.fx
open Go.RowKit Go.Proofs.HHW Go.Proofs.YtfbfmcjjohiikaaGreatDoorW.PrintWords
def oS (K : Int) (s : ByteArray) (St : Bool) : ByteArray := if K = 43 ∨ K = 45 ∨ K = 33 ∨ K = 59 ∨ K = 61 then s else if K = 36 then (bif St then ⟨#[]⟩ else s) else ⟨#[]⟩
def oN (K n : Int) : Int := if K = 58 then n else 0
def oF (K : Int) (f : Nat) : Nat := if K = 44 then f else 0
def oB (K : Int) (b : Bool) : Bool := if K = 35 then b else false
def oM (K : Int) (s : ByteArray) : ByteArray := if K = 61 then s else ⟨#[]⟩
def oU (K n : Int) (St : Bool) : Int := if K = 42 ∨ K = 37 ∨ K = 126 then (bif St then 0 else n) else if K = 124 ∨ K = 62 then n else 0
def oT (K : Int) (St : Bool) : Bool := if K = 36 ∨ K = 42 ∨ K = 37 ∨ K = 126 then St else false
def many (K : Int) : Bool := K == 42 || K == 126 || K == 62 || K == 37 || K == 124
def line (K : Int) : Bool := K == 43 || K == 45 || K == 58 || K == 95 || K == 44 || K == 35 || K == 40
def blobK (K : Int) : Bool := K == 36 || K == 33 || K == 61 || K == 59
theorem ty_many {K : Int} (h : many K = true) : typed K := by unfold many at h; simp at h; unfold typed; omega
theorem ty_line {K : Int} (h : line K = true) (h0 : K ≠ 40) : typed K := by unfold line at h; simp at h; unfold typed; omega
theorem ty_blob {K : Int} (h : blobK K = true) : typed K := by unfold blobK at h; simp at h; unfold typed; omega
theorem typed_bd {K : Int} (h : typed K) : 33 ≤ K ∧ K ≤ 126 := by unfold typed at h; omega
section
variable {K : Int} {s : ByteArray} {n : Int} {f : Nat} {b : Bool} {m : ByteArray} {u : Int} {St : Bool}
theorem wl1 (hK : typed K) (h : oT K St = true) : strOfNums [K] ++ ⟨#[63]⟩ ++ ⟨#[13, 10]⟩ = strOfNums (mwire K s n f b m u St) := by
 have e : mwire K s n f b m u St = [K] ++ [63] ++ [13, 10] := by
  unfold oT at h
  split at h
  ·
   rename_i h1
   subst h
   rcases h1 with rfl | rfl | rfl | rfl <;> simp [mwire]
  ·
   cases h
 rw [e, px.sapp, px.sapp]; rfl
theorem wl2 (h : K = 59) (hs : (oS K s St).size = 0) : (⟨#[59, 48, 13, 10]⟩ : ByteArray) = strOfNums (mwire K s n f b m u St) := by
 subst h
 have h2 : s.size = 0 := hs
 have e : mwire 59 s n f b m u St = [59, 48, 13, 10] := by
  simp [mwire, h2, wq.dec_small (show 0 < 10 by decide)]
 rw [e]; rfl
theorem wl3 (h : K = 61) (h3 : m.size = 3) : strOfNums (px.blob 61 (oM K m ++ ⟨#[58]⟩ ++ oS K s St)) = strOfNums (mwire K s n f b m u St) := by
 subst h
 have e : mwire 61 s n f b m u St = px.blob 61 (m ++ ⟨#[58]⟩ ++ s) := by
  have h4 : (m ++ ⟨#[58]⟩ ++ s).size = s.size + 4 := by
   simp only [ByteArray.size_append, h3]
   show 3 + 1 + s.size = _
   omega
  unfold px.blob
  rw [h4, wq.ints_app, wq.ints_app]
  simp [mwire, bl]
  rfl
 rw [e]; rfl
theorem wl4 (hK : typed K) (h1 : oT K St = false) (h2 : ¬ (K = 59 ∧ (oS K s St).size = 0)) (h3 : K ≠ 61) (h4 : blobK K = true) : strOfNums (px.blob K (oS K s St)) = strOfNums (mwire K s n f b m u St) := by
 have h5 : K = 36 ∨ K = 33 ∨ K = 59 := by unfold blobK at h4; simp at h4; omega
 rcases h5 with rfl | rfl | rfl
 ·
  have hs : St = false := h1
  subst hs; rfl
 ·
  rfl
 ·
  have h6 : s.size ≠ 0 := fun e => h2 ⟨rfl, e⟩
  have e : mwire 59 s n f b m u St = px.blob 59 s := by simp [mwire, px.blob, h6]
  rw [e]; rfl
theorem wl5 (h : K = 43 ∨ K = 45) : strOfNums [K] ++ oS K s St ++ ⟨#[13, 10]⟩ = strOfNums (mwire K s n f b m u St) := by
 have e : mwire K s n f b m u St = [K] ++ ints s ++ [13, 10] := by rcases h with rfl | rfl <;> simp [mwire]
 have e2 : oS K s St = s := by rcases h with rfl | rfl <;> simp [oS]
 rw [e, e2, px.sapp, px.sapp, px.sint]; rfl
theorem wl6 (h : K = 58) : strOfNums [K] ++ strOfNums (sdec (oN K n)) ++ ⟨#[13, 10]⟩ = strOfNums (mwire K s n f b m u St) := by
 subst h
 have e : mwire 58 s n f b m u St = [58] ++ sdec n ++ [13, 10] := by simp [mwire]
 rw [e, px.sapp, px.sapp]; rfl
theorem wl7 (h : K = 44) : strOfNums [K] ++ strOfNums (dtext (oF K f)) ++ ⟨#[13, 10]⟩ = strOfNums (mwire K s n f b m u St) := by
 subst h
 have e : mwire 44 s n f b m u St = [44] ++ dtext f ++ [13, 10] := by simp [mwire]
 rw [e, px.sapp, px.sapp]; rfl
theorem wl8 (h : K = 35) (hb : oB K b = true) : (⟨#[35, 116, 13, 10]⟩ : ByteArray) = strOfNums (mwire K s n f b m u St) := by
 subst h
 have hb' : b = true := hb
 subst hb'; rfl
theorem wl9 (h : K = 35) (hb : oB K b = false) : (⟨#[35, 102, 13, 10]⟩ : ByteArray) = strOfNums (mwire K s n f b m u St) := by
 subst h
 have hb' : b = false := hb
 subst hb'; rfl
theorem wl10 (h : K = 95 ∨ K = 46) : strOfNums [K] ++ ⟨#[13, 10]⟩ = strOfNums (mwire K s n f b m u St) := by
 have e : mwire K s n f b m u St = [K] ++ [13, 10] := by rcases h with rfl | rfl <;> simp [mwire]
 rw [e, px.sapp]; rfl
theorem wl11 (hK : typed K) (h1 : oT K St = false) (h2 : blobK K = false) (h3 : K ≠ 43 ∧ K ≠ 45 ∧ K ≠ 58 ∧ K ≠ 44 ∧ K ≠ 35 ∧ K ≠ 95 ∧ K ≠ 46) : strOfNums [K] ++ strOfNums (sdec (oU K u St)) ++ ⟨#[13, 10]⟩ = strOfNums (mwire K s n f b m u St) := by
 have h4 : K = 42 ∨ K = 37 ∨ K = 126 ∨ K = 124 ∨ K = 62 := by unfold blobK at h2; simp at h2; unfold typed at hK; omega
 have e : mwire K s n f b m u St = [K] ++ sdec (oU K u St) ++ [13, 10] := by
  rcases h4 with rfl | rfl | rfl | rfl | rfl
  ·
   have hs : St = false := h1
   subst hs; simp [mwire, oU]
  ·
   have hs : St = false := h1
   subst hs; simp [mwire, oU]
  ·
   have hs : St = false := h1
   subst hs; simp [mwire, oU]
  ·
   simp [mwire, oU]
  ·
   simp [mwire, oU]
 rw [e, px.sapp, px.sapp]; rfl
theorem oN_bd (h : -9223372036854775808 ≤ n ∧ n ≤ 9223372036854775807) : -9223372036854775808 ≤ oN K n ∧ oN K n ≤ 9223372036854775807 := by unfold oN; split <;> omega
theorem oU_bd (h : -9223372036854775808 ≤ u ∧ u ≤ 9223372036854775807) : -9223372036854775808 ≤ oU K u St ∧ oU K u St ≤ 9223372036854775807 := by
 unfold oU
 split
 ·
  cases St <;> simp only [cond_true, cond_false] <;> omega
 ·
  split <;> omega
theorem oF_bd (h : f < 18446744073709551616) : oF K f < 18446744073709551616 := by unfold oF; split <;> omega
theorem oS_bd (h : s.size ≤ 2000) : (oS K s St).size ≤ 2000 := by
 unfold oS
 split
 ·
  exact h
 ·
  split
  ·
   cases St
   ·
    exact h
   ·
    exact Nat.zero_le _
  ·
   exact Nat.zero_le _
theorem oM_bd (h : m.size ≤ 100) : (oM K m).size ≤ 100 := by
 unfold oM
 split
 ·
  exact h
 ·
  exact Nat.zero_le _
theorem sb (x y : ByteArray) : (x ++ y).size = x.size + y.size := ByteArray.size_append
theorem sn (l : List Int) : (strOfNums l).size = l.length := strOfNums_size _
theorem ptab_on {g B : Nat} {wb w : World} {L : List (Nat × Obj)} (h : fz.PTab g B wb) (H : HH B wb w L) : fz.PTab g w.heap.size w :=
 ⟨Nat.lt_of_lt_of_le h.lt H.hB, fun i hi => ⟨(H.old h.lt).trans (h.at_ i hi).1, (H.old h.lt).trans (h.at_ i hi).2⟩⟩
end
end Go.Proofs.YtfbfmcjjohiikaaGreatDoor.mw
end
section
namespace Go.Proofs.HHW
open Go.RowKit Go.Proofs.YtfbfmcjjohiikaaGreatDoorW.PrintWords
section
open YtfbfmcjjohiikaaGreatDoorW.PrintLast
variable {P : Program} {ops : Array Oper} {Q : Exit → Act → World → Prop} {a : Act} {w : World} {B : Nat} {w0 : World} {L Lr L' : List (Nat × Obj)} {n d : Nat} {ds : List Deferred} {F : List (Nat × Value)} {dss : List Nat} {fuel : Nat} {l : Array Bool}
theorem d_startW {id : Nat} (dss : List Nat) (N : Nat) (l : Array Bool) (H : HH B w0 w L) (hsub : ∀ w, HH B w0 w L → HH B w0 w Lr) (hm : P.follows .mixedOrders = true) (hn : ops.size = N) (hl : Array.replicate N false = l)
  (h : ∀ w, HH B w0 w L → wpAnyLast P .any ops Q (fun w => HH B w0 w Lr) dss N l a w) : (Code.region id ops true).wp P Q a w :=
 start_ l hm hn hl (hsub _ H.drew) (fun _ => h _ H.drew)
theorem d_storeN {i : Nat} {oi : Oper} {t : TypeId} {x y : Operand} {g j : Nat} {cs : Array Value} {tt : TypeId} {v : Value} (l' : Array Bool) (S : SL a n ds F) (H : HH B w0 w L) (hi : ops[i]? = some oi) (ho : oi.op = .store t x y)
  (hx : ev F x = some (.pointer (some ⟨g, j, none⟩))) (hy : ev F y = some v) (hu : Upd L g (.cells cs tt (0, 0)) (.cells (cs.setIfInBounds j v) tt (0, 0)) L') (hj : j < cs.size)
  (hr : ∀ (w : World) u, w.cell? ⟨g, j, none⟩ = some u → w.frozen? ⟨g, j, none⟩ = false → (Instr.storeAt t (.pointer (some ⟨g, j, none⟩)) v).run P w = .ok () (w.setCell ⟨g, j, none⟩ v))
  (hsub : ∀ w, HH B w0 w L' → HH B w0 w Lr)
  (hw : Region.wanted oi (yielded ops a.tmps) = true) (hd : oi.dst = none) (hc : readyB .any ops l l' i = true) (hds : dss.contains i = false)
  (h : ∀ w a, HH B w0 w L' → SL a n ds F → wpAnyLast P .any ops Q (fun w => HH B w0 w Lr) dss fuel l' a w) : wpAnyLast P .any ops Q (fun w => HH B w0 w Lr) dss (fuel + 1) l a w :=
 one_ l' hi hd hc (by simpa using hds) (fun K hK => skip_ hw hd (run_store_at S.agree H ho hx hy hu hj hr) (hK.out _ _ (hsub _ (H.set hu)) (fun _ => h _ _ (H.set hu) S)))
end
end Go.Proofs.HHW
end
