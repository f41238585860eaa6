/- FnCommandText: properties, Cmd, String. -/
import Derived.Test.YtnmelglnkefjfaaDoorCq
namespace Go.Proofs.YtnmelglnkefjfaaDoor.ct
open Go.RowKit Go.Proofs.HHW Go.Proofs.YtnmelglnkefjfaaDoorW.PrintWords Go.Proofs.YtnmelglnkefjfaaDoor.cm
set_option linter.unusedVariables false
set_option linter.unusedSimpArgs false
namespace pr
theorem ag111 : aggB Tryd.prog 111 = some false := by kernel_rfl
theorem ag113 : aggB Tryd.prog 113 = some true := by kernel_rfl
theorem ag139 : aggB Tryd.prog 139 = some true := by kernel_rfl
theorem ag36 : aggB Tryd.prog 36 = some false := by kernel_rfl
theorem ag9 : aggB Tryd.prog 9 = some false := by kernel_rfl
theorem fa113_0 (w : World) (g o : Nat) : (Instr.fieldAt 113 (.pointer (some ⟨g, o, none⟩)) 0).run Tryd.prog w = .ok (.pointer (some ⟨g, o + 0, none⟩)) w := by kernel_rfl
theorem fa139_0 (w : World) (g o : Nat) : (Instr.fieldAt 139 (.pointer (some ⟨g, o, none⟩)) 0).run Tryd.prog w = .ok (.pointer (some ⟨g, o + 0, none⟩)) w := by kernel_rfl
theorem fa141_1 (w : World) (g o : Nat) : (Instr.fieldAt 141 (.pointer (some ⟨g, o, none⟩)) 1).run Tryd.prog w = .ok (.pointer (some ⟨g, o + 1, none⟩)) w := by kernel_rfl
theorem fa141_2 (w : World) (g o : Nat) : (Instr.fieldAt 141 (.pointer (some ⟨g, o, none⟩)) 2).run Tryd.prog w = .ok (.pointer (some ⟨g, o + 2, none⟩)) w := by kernel_rfl
theorem fa141_3 (w : World) (g o : Nat) : (Instr.fieldAt 141 (.pointer (some ⟨g, o, none⟩)) 3).run Tryd.prog w = .ok (.pointer (some ⟨g, o + 3, none⟩)) w := by kernel_rfl
theorem sz113 : szB Tryd.prog 113 = some 1 := by kernel_rfl
theorem sz139 : szB Tryd.prog 139 = some 4 := by kernel_rfl
theorem sz36 : szB Tryd.prog 36 = some 1 := by kernel_rfl
theorem sz9 : szB Tryd.prog 9 = some 1 := by kernel_rfl
theorem zv139 : zvB Tryd.prog 139 = some (.agg #[.slice none 0 0, .bool false, .bool false, .bool false]) := by kernel_rfl
theorem zv4 : zvB Tryd.prog 4 = some (.bool false) := by kernel_rfl
theorem in9 : (Tryd.prog.info? 9).map (fun i => (i.zero, i.size, i.bytes)) = some (some (.string ⟨#[]⟩), 1, 16) := by kernel_rfl
theorem bld139_1_2_3 (x0_0 : Bool) (x1_0 : Bool) (x2_0 : Bool) : Tryd.prog.built 139 [(1, (.bool x0_0)), (2, (.bool x1_0)), (3, (.bool x2_0))] = some #[.slice none 0 0, .bool x0_0, .bool x1_0, .bool x2_0] := by kernel_rfl
theorem bld141_0_1_2n00 (x1_0 : ByteArray) (x2_0A : Option Addr) (x2_0n x2_0c : Nat) : Tryd.prog.built 141 [(0, (.nilIface)), (1, (.string x1_0)), (2, (.slice x2_0A x2_0n x2_0c))] = some #[.nilIface, .string x1_0, .slice x2_0A x2_0n x2_0c, .slice none 0 0, .bool false, .bool false, .bool false, .nilIface] := by kernel_rfl

theorem mem_getD {l : List ByteArray} {i : Nat} (h : i < l.length) : l.getD i ByteArray.empty ∈ l := by
  rw [List.getD_eq_getElem?_getD, List.getElem?_eq_getElem h]
  exact List.getElem_mem h
theorem block_ (wb w0 : World) (B : Nat) (L0 : List (Nat × Obj)) (H : HH B wb w0 L0) : Calls Tryd.prog 74 #[] w0 fun e w' => ∃ gm es cm, e = .returned (.map (some gm)) ∧ MapB es ∧ HH B wb w' ((gm, .map es cm) :: L0) := by
  refine c_enter (args := []) (k := 3) Tryd.func74 rfl rfl rfl (fun a S => ?_)
  refine wp_seq ?_
  refine c_region ?_
  refine l_pure S (p_assign rfl) rfl rfl rfl ?_; clear S a; intro a S
  refine l_nil ?_
  refine e_then ?_
  refine wp_seq ?_
  refine c_region ?_
  refine l_makeMap S H rfl rfl rfl rfl ?_; clear S a H; intro gm w a H S
  have hM := mapB_nil
  refine l_insert S H hM rfl rfl rfl rfl Tryd.underlying168 Tryd.underlying9 rfl rfl ?_; clear S a H hM; intro es cm w a hM H S
  refine l_insert S H hM rfl rfl rfl rfl Tryd.underlying168 Tryd.underlying9 rfl rfl ?_; clear S a H hM; intro es cm w a hM H S
  refine l_insert S H hM rfl rfl rfl rfl Tryd.underlying168 Tryd.underlying9 rfl rfl ?_; clear S a H hM; intro es cm w a hM H S
  refine l_insert S H hM rfl rfl rfl rfl Tryd.underlying168 Tryd.underlying9 rfl rfl ?_; clear S a H hM; intro es cm w a hM H S
  refine l_insert S H hM rfl rfl rfl rfl Tryd.underlying168 Tryd.underlying9 rfl rfl ?_; clear S a H hM; intro es cm w a hM H S
  refine l_insert S H hM rfl rfl rfl rfl Tryd.underlying168 Tryd.underlying9 rfl rfl ?_; clear S a H hM; intro es cm w a hM H S
  refine l_insert S H hM rfl rfl rfl rfl Tryd.underlying168 Tryd.underlying9 rfl rfl ?_; clear S a H hM; intro es cm w a hM H S
  refine l_insert S H hM rfl rfl rfl rfl Tryd.underlying168 Tryd.underlying9 rfl rfl ?_; clear S a H hM; intro es cm w a hM H S
  refine l_insert S H hM rfl rfl rfl rfl Tryd.underlying168 Tryd.underlying9 rfl rfl ?_; clear S a H hM; intro es cm w a hM H S
  refine l_pure S (p_move rfl) rfl rfl rfl ?_; clear S a; intro a S
  refine l_pure S (p_assign rfl) rfl rfl rfl ?_; clear S a; intro a S
  refine l_nil ?_
  refine e_then ?_
  refine wp_ret ?_
  exact r_ret1 S rfl rfl ⟨_, _, _, rfl, hM, H⟩
theorem nokey_ (wb w0 : World) (B : Nat) (L0 : List (Nat × Obj)) (H : HH B wb w0 L0) : Calls Tryd.prog 75 #[] w0 fun e w' => ∃ gm es cm, e = .returned (.map (some gm)) ∧ MapB es ∧ HH B wb w' ((gm, .map es cm) :: L0) := by
  refine c_enter (args := []) (k := 3) Tryd.func75 rfl rfl rfl (fun a S => ?_)
  refine wp_seq ?_
  refine c_region ?_
  refine l_pure S (p_assign rfl) rfl rfl rfl ?_; clear S a; intro a S
  refine l_nil ?_
  refine e_then ?_
  refine wp_seq ?_
  refine c_region ?_
  refine l_makeMap S H rfl rfl rfl rfl ?_; clear S a H; intro gm w a H S
  have hM := mapB_nil
  refine l_insert S H hM rfl rfl rfl rfl Tryd.underlying168 Tryd.underlying9 rfl rfl ?_; clear S a H hM; intro es cm w a hM H S
  refine l_insert S H hM rfl rfl rfl rfl Tryd.underlying168 Tryd.underlying9 rfl rfl ?_; clear S a H hM; intro es cm w a hM H S
  refine l_insert S H hM rfl rfl rfl rfl Tryd.underlying168 Tryd.underlying9 rfl rfl ?_; clear S a H hM; intro es cm w a hM H S
  refine l_insert S H hM rfl rfl rfl rfl Tryd.underlying168 Tryd.underlying9 rfl rfl ?_; clear S a H hM; intro es cm w a hM H S
  refine l_insert S H hM rfl rfl rfl rfl Tryd.underlying168 Tryd.underlying9 rfl rfl ?_; clear S a H hM; intro es cm w a hM H S
  refine l_insert S H hM rfl rfl rfl rfl Tryd.underlying168 Tryd.underlying9 rfl rfl ?_; clear S a H hM; intro es cm w a hM H S
  refine l_insert S H hM rfl rfl rfl rfl Tryd.underlying168 Tryd.underlying9 rfl rfl ?_; clear S a H hM; intro es cm w a hM H S
  refine l_insert S H hM rfl rfl rfl rfl Tryd.underlying168 Tryd.underlying9 rfl rfl ?_; clear S a H hM; intro es cm w a hM H S
  refine l_insert S H hM rfl rfl rfl rfl Tryd.underlying168 Tryd.underlying9 rfl rfl ?_; clear S a H hM; intro es cm w a hM H S
  refine l_insert S H hM rfl rfl rfl rfl Tryd.underlying168 Tryd.underlying9 rfl rfl ?_; clear S a H hM; intro es cm w a hM H S
  refine l_insert S H hM rfl rfl rfl rfl Tryd.underlying168 Tryd.underlying9 rfl rfl ?_; clear S a H hM; intro es cm w a hM H S
  refine l_insert S H hM rfl rfl rfl rfl Tryd.underlying168 Tryd.underlying9 rfl rfl ?_; clear S a H hM; intro es cm w a hM H S
  refine l_insert S H hM rfl rfl rfl rfl Tryd.underlying168 Tryd.underlying9 rfl rfl ?_; clear S a H hM; intro es cm w a hM H S
  refine l_insert S H hM rfl rfl rfl rfl Tryd.underlying168 Tryd.underlying9 rfl rfl ?_; clear S a H hM; intro es cm w a hM H S
  refine l_insert S H hM rfl rfl rfl rfl Tryd.underlying168 Tryd.underlying9 rfl rfl ?_; clear S a H hM; intro es cm w a hM H S
  refine l_insert S H hM rfl rfl rfl rfl Tryd.underlying168 Tryd.underlying9 rfl rfl ?_; clear S a H hM; intro es cm w a hM H S
  refine l_insert S H hM rfl rfl rfl rfl Tryd.underlying168 Tryd.underlying9 rfl rfl ?_; clear S a H hM; intro es cm w a hM H S
  refine l_insert S H hM rfl rfl rfl rfl Tryd.underlying168 Tryd.underlying9 rfl rfl ?_; clear S a H hM; intro es cm w a hM H S
  refine l_insert S H hM rfl rfl rfl rfl Tryd.underlying168 Tryd.underlying9 rfl rfl ?_; clear S a H hM; intro es cm w a hM H S
  refine l_insert S H hM rfl rfl rfl rfl Tryd.underlying168 Tryd.underlying9 rfl rfl ?_; clear S a H hM; intro es cm w a hM H S
  refine l_insert S H hM rfl rfl rfl rfl Tryd.underlying168 Tryd.underlying9 rfl rfl ?_; clear S a H hM; intro es cm w a hM H S
  refine l_insert S H hM rfl rfl rfl rfl Tryd.underlying168 Tryd.underlying9 rfl rfl ?_; clear S a H hM; intro es cm w a hM H S
  refine l_insert S H hM rfl rfl rfl rfl Tryd.underlying168 Tryd.underlying9 rfl rfl ?_; clear S a H hM; intro es cm w a hM H S
  refine l_insert S H hM rfl rfl rfl rfl Tryd.underlying168 Tryd.underlying9 rfl rfl ?_; clear S a H hM; intro es cm w a hM H S
  refine l_insert S H hM rfl rfl rfl rfl Tryd.underlying168 Tryd.underlying9 rfl rfl ?_; clear S a H hM; intro es cm w a hM H S
  refine l_insert S H hM rfl rfl rfl rfl Tryd.underlying168 Tryd.underlying9 rfl rfl ?_; clear S a H hM; intro es cm w a hM H S
  refine l_insert S H hM rfl rfl rfl rfl Tryd.underlying168 Tryd.underlying9 rfl rfl ?_; clear S a H hM; intro es cm w a hM H S
  refine l_insert S H hM rfl rfl rfl rfl Tryd.underlying168 Tryd.underlying9 rfl rfl ?_; clear S a H hM; intro es cm w a hM H S
  refine l_insert S H hM rfl rfl rfl rfl Tryd.underlying168 Tryd.underlying9 rfl rfl ?_; clear S a H hM; intro es cm w a hM H S
  refine l_insert S H hM rfl rfl rfl rfl Tryd.underlying168 Tryd.underlying9 rfl rfl ?_; clear S a H hM; intro es cm w a hM H S
  refine l_insert S H hM rfl rfl rfl rfl Tryd.underlying168 Tryd.underlying9 rfl rfl ?_; clear S a H hM; intro es cm w a hM H S
  refine l_insert S H hM rfl rfl rfl rfl Tryd.underlying168 Tryd.underlying9 rfl rfl ?_; clear S a H hM; intro es cm w a hM H S
  refine l_insert S H hM rfl rfl rfl rfl Tryd.underlying168 Tryd.underlying9 rfl rfl ?_; clear S a H hM; intro es cm w a hM H S
  refine l_insert S H hM rfl rfl rfl rfl Tryd.underlying168 Tryd.underlying9 rfl rfl ?_; clear S a H hM; intro es cm w a hM H S
  refine l_insert S H hM rfl rfl rfl rfl Tryd.underlying168 Tryd.underlying9 rfl rfl ?_; clear S a H hM; intro es cm w a hM H S
  refine l_insert S H hM rfl rfl rfl rfl Tryd.underlying168 Tryd.underlying9 rfl rfl ?_; clear S a H hM; intro es cm w a hM H S
  refine l_insert S H hM rfl rfl rfl rfl Tryd.underlying168 Tryd.underlying9 rfl rfl ?_; clear S a H hM; intro es cm w a hM H S
  refine l_insert S H hM rfl rfl rfl rfl Tryd.underlying168 Tryd.underlying9 rfl rfl ?_; clear S a H hM; intro es cm w a hM H S
  refine l_insert S H hM rfl rfl rfl rfl Tryd.underlying168 Tryd.underlying9 rfl rfl ?_; clear S a H hM; intro es cm w a hM H S
  refine l_insert S H hM rfl rfl rfl rfl Tryd.underlying168 Tryd.underlying9 rfl rfl ?_; clear S a H hM; intro es cm w a hM H S
  refine l_insert S H hM rfl rfl rfl rfl Tryd.underlying168 Tryd.underlying9 rfl rfl ?_; clear S a H hM; intro es cm w a hM H S
  refine l_insert S H hM rfl rfl rfl rfl Tryd.underlying168 Tryd.underlying9 rfl rfl ?_; clear S a H hM; intro es cm w a hM H S
  refine l_insert S H hM rfl rfl rfl rfl Tryd.underlying168 Tryd.underlying9 rfl rfl ?_; clear S a H hM; intro es cm w a hM H S
  refine l_insert S H hM rfl rfl rfl rfl Tryd.underlying168 Tryd.underlying9 rfl rfl ?_; clear S a H hM; intro es cm w a hM H S
  refine l_pure S (p_move rfl) rfl rfl rfl ?_; clear S a; intro a S
  refine l_pure S (p_assign rfl) rfl rfl rfl ?_; clear S a; intro a S
  refine l_nil ?_
  refine e_then ?_
  refine wp_ret ?_
  exact r_ret1 S rfl rfl ⟨_, _, _, rfl, hM, H⟩
theorem keys_ (w0 : World) (A : Option Addr) (c : Nat) (l : List ByteArray) (hC : Kd.string.C w0 A l.length l) (hlc : l.length ≤ c) (hl : l.length ≤ 1000) : Calls Tryd.prog 76 #[.slice A l.length c] w0 fun e w' => ∃ A' n' c', e = .returned (.slice A' n' c') ∧ Below w0.heap.size w0 w' := by
  have H := HH.start w0
  refine c_enter (args := [.slice A l.length c]) (k := 23) Tryd.func76 rfl rfl rfl (fun a S => ?_)
  refine wp_seq ?_
  refine c_region ?_
  refine l_pure S (p_assign rfl) rfl rfl rfl ?_; clear S a; intro a S
  refine l_nil ?_
  refine e_then ?_
  refine wp_seq ?_
  refine c_region ?_
  refine l_pure S (p_move rfl) rfl rfl rfl ?_; clear S a; intro a S
  refine l_pure S (p_len Tryd.underlying36 rfl) rfl rfl rfl ?_; clear S a; intro a S
  refine l_pure S (p_quo rfl rfl (by omega) (nat_quo l.length 2 (by omega))) rfl rfl rfl ?_; clear S a; intro a S
  refine l_make (l := l.length / 2) (c := l.length / 2) S H rfl rfl rfl Tryd.underlying36 in9 (by omega) (by omega) (by omega) rfl rfl rfl ?_; clear S a H; intro gk ck w a hck H S
  refine l_pure S (p_assign rfl) rfl rfl rfl ?_; clear S a; intro a S
  refine l_nil ?_
  refine e_then ?_
  refine wp_seq ?_
  refine wp_seq ?_
  refine c_region ?_
  refine l_pure S (p_move rfl) rfl rfl rfl ?_; clear S a; intro a S
  refine l_pure S (p_len Tryd.underlying36 rfl) rfl rfl rfl ?_; clear S a; intro a S
  refine l_pure S (p_move rfl) rfl rfl rfl ?_; clear S a; intro a S
  refine l_nil ?_
  refine e_then ?_
  refine wp_block ?_
  refine c_loop (σ := Nat × Array Value) (fun s_ a w => match s_ with | ⟨i, cs⟩ => SL a 24 [] [(0, .slice A l.length c), (3, .slice (some ⟨gk, 0, none⟩) (l.length / 2) (l.length / 2)), (10, .int .i64 ((l.length / 2 : Nat) : Int)), (11, .int .i64 (i : Int))] ∧ HH (w0.heap.size) w0 w [(gk, .cells cs 9 (0, 0))] ∧ (i ≤ l.length / 2 ∧ cs.size = l.length / 2)) (fun s_ => match s_ with | ⟨i, cs⟩ => l.length / 2 - i) ⟨0, ck⟩ ⟨S.only ⟨rfl, rfl, rfl, rfl, trivial⟩, H, ⟨Nat.zero_le _, hck⟩⟩ ?_
  clear S a H; rintro ⟨i, cs⟩ a w ⟨S, H, hinv⟩
  obtain ⟨hi, hcs⟩ := hinv
  refine wp_seq ?_
  refine c_region ?_
  refine l_pure S (p_lss rfl rfl) rfl rfl rfl ?_; clear S a; intro a S
  refine l_nil ?_
  refine e_then ?_
  refine wp_seq ?_
  refine c_cond S rfl (fun bc2 => ?_) (fun bc2 => ?_)
  · skip
    have c2 := bc2
    have c2 := of_decide_eq_true c2
    refine wp_skip ?_
    refine e_then ?_
    refine wp_seq ?_
    refine wp_block ?_
    refine wp_seq ?_
    refine c_region ?_
    refine l_pure S (p_move rfl) rfl rfl rfl ?_; clear S a; intro a S
    refine l_pure S (p_assign rfl) rfl rfl rfl ?_; clear S a; intro a S
    refine l_nil ?_
    refine e_then ?_
    refine c_region ?_
    refine l_pure S (p_move rfl) rfl rfl rfl ?_; clear S a; intro a S
    refine l_pure S (p_move rfl) rfl rfl rfl ?_; clear S a; intro a S
    refine l_pure S (p_move rfl) rfl rfl rfl ?_; clear S a; intro a S
    refine l_pure S (p_move rfl) rfl rfl rfl ?_; clear S a; intro a S
    refine l_pure S (p_mul rfl rfl (nat_mul (x := i) (y := 2) (by omega))) rfl rfl rfl ?_; clear S a; intro a S
    obtain ⟨ad, hA⟩ := C_some hC (show (i * 2) < l.length by omega)
    subst hA
    refine l_pure S (p_indexAddr rfl rfl (fun w => ia_any Tryd.underlying36 sz9 (by omega) (by omega))) rfl rfl rfl ?_; clear S a; intro a S
    refine l_read S H (r_row (i := (i * 2)) hC rfl (by rw [Int.toNat_natCast, Nat.mul_one]) (get_some ByteArray.empty (by omega)) ag9 rfl) rfl rfl rfl ?_; clear S a; intro a S
    refine l_pure S (p_indexAddr rfl rfl (fun w => ia_slice Tryd.underlying36 sz9 (by omega) (by omega))) rfl rfl rfl ?_; clear S a; intro a S
    refine l_store S H rfl rfl rfl .here (by rw [hcs]; omega) (fun w u hc hz => st1 sz9 rfl hc hz) rfl rfl ?_; clear S a H; intro w a H S
    refine l_nil ?_
    refine e_in 1 ?_
    refine e_then ?_
    refine c_region ?_
    refine l_pure S (p_add rfl rfl (nat_add (x := i) (y := 1) (by omega))) rfl rfl rfl ?_; clear S a; intro a S
    refine l_pure S (p_move rfl) rfl rfl rfl ?_; clear S a; intro a S
    refine l_nil ?_
    refine e_then ?_
    exact ⟨⟨i + 1, _⟩, ⟨S.only ⟨rfl, rfl, rfl, rfl, trivial⟩, H, ⟨by omega, by rw [Array.size_setIfInBounds]; exact hcs⟩⟩, (show l.length / 2 - (i + 1) < l.length / 2 - i by omega)⟩
  · skip
    have c2 := bc2
    have c2 := of_decide_eq_false c2
    refine wp_exit ?_
    refine e_then_exit ?_
    refine e_then_exit ?_
    refine e_in_exit ?_
    refine e_then ?_
    refine wp_seq ?_
    refine c_region ?_
    refine l_pure S (p_move rfl) rfl rfl rfl ?_; clear S a; intro a S
    refine l_pure S (p_assign rfl) rfl rfl rfl ?_; clear S a; intro a S
    refine l_nil ?_
    refine e_then ?_
    refine wp_ret ?_
    exact r_ret1 S rfl rfl ⟨_, _, _, rfl, H.below⟩
theorem streams_ (w0 : World) (A : Option Addr) (c : Nat) (l : List ByteArray) (hC : Kd.string.C w0 A l.length l) (hlc : l.length ≤ c) (hl : l.length ≤ 1000) (hls : ∀ s ∈ l, s.size ≤ 1000) (hT : ∀ w, Below w0.heap.size w0 w → li.Tabs w) : Calls Tryd.prog 77 #[.slice A l.length c] w0 fun e w' => ∃ A' n' c', e = .returned (.slice A' n' c') ∧ Below w0.heap.size w0 w' := by
  have H := HH.start w0
  refine c_enter (args := [.slice A l.length c]) (k := 30) Tryd.func77 rfl rfl rfl (fun a S => ?_)
  refine wp_seq ?_
  refine c_region ?_
  refine l_pure S (p_assign rfl) rfl rfl rfl ?_; clear S a; intro a S
  refine l_nil ?_
  refine e_then ?_
  refine wp_seq ?_
  refine wp_seq ?_
  refine c_region ?_
  refine l_pure S (p_move rfl) rfl rfl rfl ?_; clear S a; intro a S
  refine l_pure S (p_len Tryd.underlying36 rfl) rfl rfl rfl ?_; clear S a; intro a S
  refine l_pure S (p_move rfl) rfl rfl rfl ?_; clear S a; intro a S
  refine l_nil ?_
  refine e_then ?_
  refine wp_block ?_
  refine c_loop (σ := Nat) (fun s_ a w => match s_ with | i => SL a 31 [] [(0, .slice A l.length c), (6, .slice A l.length c), (7, .int .i64 (l.length : Int)), (8, .int .i64 (i : Int))] ∧ HH (w0.heap.size) w0 w [] ∧ (i ≤ l.length)) (fun s_ => match s_ with | i => l.length - i) 0 ⟨S.only ⟨rfl, rfl, rfl, rfl, trivial⟩, H, Nat.zero_le _⟩ ?_
  clear S a H; rintro i a w ⟨S, H, hinv⟩
  refine wp_seq ?_
  refine c_region ?_
  refine l_pure S (p_lss rfl rfl) rfl rfl rfl ?_; clear S a; intro a S
  refine l_nil ?_
  refine e_then ?_
  refine wp_seq ?_
  refine c_cond S rfl (fun bc2 => ?_) (fun bc2 => ?_)
  · skip
    have c2 := bc2
    have c2 := of_decide_eq_true c2
    refine wp_skip ?_
    refine e_then ?_
    refine wp_seq ?_
    refine wp_block ?_
    refine wp_seq ?_
    refine c_region ?_
    refine l_pure S (p_move rfl) rfl rfl rfl ?_; clear S a; intro a S
    obtain ⟨ad, hA⟩ := C_some hC (show i < l.length by omega)
    subst hA
    refine l_pure S (p_indexAddr rfl rfl (fun w => ia_any Tryd.underlying36 sz9 (by omega) (by omega))) rfl rfl rfl ?_; clear S a; intro a S
    refine l_read S H (r_row (i := i) hC rfl (by rw [Int.toNat_natCast, Nat.mul_one]) (get_some ByteArray.empty (by omega)) ag9 rfl) rfl rfl rfl ?_; clear S a; intro a S
    refine l_pure S (p_assign rfl) rfl rfl rfl ?_; clear S a; intro a S
    refine l_pure S (p_assign rfl) rfl rfl rfl ?_; clear S a; intro a S
    refine l_nil ?_
    refine e_then ?_
    refine wp_seq ?_
    refine wp_seq ?_
    refine c_region ?_
    refine l_pure S (p_move rfl) rfl rfl rfl ?_; clear S a; intro a S
    have hcon := li.upper_ (l.getD i ByteArray.empty) _ (by have := hls _ (mem_getD (show i < l.length by omega)); omega) (hT _ H.below)
    refine l_call S rfl rfl Tryd.func58 rfl rfl (hcon) rfl rfl rfl ?_
    rintro e w ⟨rfl, hb⟩
    refine ⟨_, rfl, ?_⟩; clear S a; intro a S
    replace H := H.later hb; clear hb hcon
    refine l_pure S (p_sneq rfl rfl) rfl rfl rfl ?_; clear S a; intro a S
    refine l_nil ?_
    refine e_then ?_
    refine c_cond S rfl (fun bc4 => ?_) (fun bc4 => ?_)
    · skip
      have c4 := bc4
      refine wp_exit ?_
      refine e_then_exit ?_
      refine e_in_exit ?_
      refine e_then ?_
      refine c_region ?_
      refine l_pure S (p_add rfl rfl (nat_add (x := i) (y := 1) (by omega))) rfl rfl rfl ?_; clear S a; intro a S
      refine l_pure S (p_move rfl) rfl rfl rfl ?_; clear S a; intro a S
      refine l_nil ?_
      refine e_then ?_
      exact ⟨(i + 1), ⟨S.only ⟨rfl, rfl, rfl, rfl, trivial⟩, H, by omega⟩, (show l.length - (i + 1) < l.length - i by omega)⟩
    · skip
      have c4 := bc4
      refine wp_skip ?_
      refine e_then ?_
      refine wp_seq ?_
      refine c_region ?_
      refine l_pure S (p_move rfl) rfl rfl rfl ?_; clear S a; intro a S
      refine l_pure S (p_move rfl) rfl rfl rfl ?_; clear S a; intro a S
      refine l_pure S (p_add rfl rfl (nat_add (x := i) (y := 1) (by omega))) rfl rfl rfl ?_; clear S a; intro a S
      refine l_pure S (p_slice rfl (o_some rfl) (fun _ _ => o_none) (fun _ _ => o_none) (fun w => sl_slice_lo Tryd.underlying36 sz9 (by omega) (by omega))) rfl rfl rfl ?_; clear S a; intro a S
      rw [Int.toNat_natCast] at S
      refine l_pure S (p_len Tryd.underlying36 rfl) rfl rfl rfl ?_; clear S a; intro a S
      refine l_pure S (p_quo rfl rfl (by omega) (nat_quo (l.length - (i + 1)) 2 (by omega))) rfl rfl rfl ?_; clear S a; intro a S
      refine l_pure S (p_assign rfl) rfl rfl rfl ?_; clear S a; intro a S
      refine l_nil ?_
      refine e_then ?_
      refine wp_seq ?_
      refine c_region ?_
      refine l_pure S (p_move rfl) rfl rfl rfl ?_; clear S a; intro a S
      refine l_pure S (p_move rfl) rfl rfl rfl ?_; clear S a; intro a S
      refine l_pure S (p_add rfl rfl (nat_add (x := i) (y := 1) (by omega))) rfl rfl rfl ?_; clear S a; intro a S
      refine l_pure S (p_move rfl) rfl rfl rfl ?_; clear S a; intro a S
      refine l_pure S (p_len Tryd.underlying36 rfl) rfl rfl rfl ?_; clear S a; intro a S
      refine l_pure S (p_move rfl) rfl rfl rfl ?_; clear S a; intro a S
      refine l_pure S (p_sub rfl rfl (nat_sub (x := l.length) (y := ((l.length - (i + 1)) / 2)) (by omega) (by omega))) rfl rfl rfl ?_; clear S a; intro a S
      obtain ⟨Ak5, nk5, ck5, hk5⟩ := cut_both (P := Tryd.prog) (A := (some ad)) (n := l.length) (c := c) (k := .i64) (k' := .i64) (l := ((i + 1 : Nat) : Int)) (h := ((l.length - (l.length - (i + 1)) / 2 : Nat) : Int))  Tryd.underlying36 sz9 (by omega) (by omega) (by omega)
      refine l_pure S (p_slice rfl (o_some rfl) (o_some rfl) (fun _ _ => o_none) hk5) rfl rfl rfl ?_; clear S a; intro a S
      refine l_pure S (p_assign rfl) rfl rfl rfl ?_; clear S a; intro a S
      refine l_nil ?_
      refine e_then ?_
      refine wp_ret ?_
      refine e_in_ret ?_
      refine e_then_ret ?_
      refine e_then_ret ?_
      refine e_in_ret ?_
      refine e_then_ret ?_
      exact r_ret1 S rfl rfl ⟨_, _, _, rfl, H.below⟩
  · skip
    have c2 := bc2
    have c2 := of_decide_eq_false c2
    refine wp_exit ?_
    refine e_then_exit ?_
    refine e_then_exit ?_
    refine e_in_exit ?_
    refine e_then ?_
    refine wp_seq ?_
    refine c_region ?_
    refine l_pure S (p_assign rfl) rfl rfl rfl ?_; clear S a; intro a S
    refine l_nil ?_
    refine e_then ?_
    refine wp_ret ?_
    exact r_ret1 S rfl rfl ⟨_, _, _, rfl, H.below⟩
set_option maxHeartbeats 1000000 in
theorem props_ (w0 : World) (nm : ByteArray) (hnm : nm.size ≤ 1000) (A : Option Addr) (c : Nat) (l : List ByteArray) (hC : Kd.string.C w0 A l.length l) (hlc : l.length ≤ c) (hl : l.length ≤ 1000) (hls : ∀ s ∈ l, s.size ≤ 1000) (hT : ∀ w, Below w0.heap.size w0 w → li.Tabs w) : Calls Tryd.prog 65 #[.string nm, .slice A l.length c] w0 fun e w' => ∃ A' n' c' b1 b2 b3, e = .returned (.agg #[.slice A' n' c', .bool b1, .bool b2, .bool b3]) ∧ Below w0.heap.size w0 w' := by
  have H := HH.start w0
  refine c_enter (args := [.string nm, .slice A l.length c]) (k := 94) Tryd.func65 rfl rfl rfl (fun a S => ?_)
  refine wp_seq ?_
  refine c_region ?_
  refine l_alloc (cs := #[.slice none 0 0, .bool false, .bool false, .bool false]) S H rfl (fun w => al zv139) rfl rfl rfl ?_; clear S a H; intro g4 w a H S
  refine l_nil ?_
  refine e_then ?_
  refine wp_seq ?_
  refine c_region ?_
  refine l_call S rfl rfl Tryd.func74 rfl rfl (block_ w0 _ _ _ H) rfl rfl rfl ?_
  rintro e w ⟨gm1, es1, cm1, rfl, hM1, hH⟩
  refine ⟨_, rfl, ?_⟩; clear S a; intro a S
  clear H; have H := hH; clear hH
  refine l_pure S (p_move rfl) rfl rfl rfl ?_; clear S a; intro a S
  have hcon := li.upper_ nm _ (by omega) (hT _ H.below)
  refine l_call S rfl rfl Tryd.func58 rfl rfl (hcon) rfl rfl rfl ?_
  rintro e w ⟨rfl, hb⟩
  refine ⟨_, rfl, ?_⟩; clear S a; intro a S
  replace H := H.later hb; clear hb hcon
  refine l_read S H (r_lookup hM1 List.mem_cons_self rfl rfl Tryd.underlying168 Tryd.underlying9 zv4) rfl rfl rfl ?_; clear S a; intro a S
  replace H := H.tail
  revert S
  generalize mget es1 ⟨(Lib.toUpperD nm.data.toList).toArray⟩ = b1_
  intro S
  refine l_pure S (p_assign rfl) rfl rfl rfl ?_; clear S a; intro a S
  refine l_nil ?_
  refine e_then ?_
  refine wp_seq ?_
  refine c_region ?_
  refine l_pure S (p_move rfl) rfl rfl rfl ?_; clear S a; intro a S
  refine l_pure S (p_not rfl) rfl rfl rfl ?_; clear S a; intro a S
  refine l_pure S (p_move rfl) rfl rfl rfl ?_; clear S a; intro a S
  refine l_pure S (p_not rfl) rfl rfl rfl ?_; clear S a; intro a S
  refine l_pure S (p_bld (ps := [(1, .const (.bool true)), (2, .tmp 12), (3, .tmp 14)]) rfl (bld139_1_2_3 _ _ _)) rfl rfl rfl ?_; clear S a; intro a S
  refine l_alloc (cs := #[.slice none 0 0, .bool false, .bool false, .bool false]) S H rfl (fun w => al zv139) rfl rfl rfl ?_; clear S a H; intro g6 w a H S
  refine l_storeAll (vs := [.slice none 0 0, .bool true, .bool (!b1_), .bool (!b1_)]) S H rfl rfl rfl sz139 .here rfl (fun v hv => by simp only [List.mem_cons, List.not_mem_nil, or_false] at hv; rcases hv with rfl | rfl | rfl | rfl <;> rfl) rfl rfl ?_; clear S a H; intro w a H S
  refine l_nil ?_
  refine e_then ?_
  refine wp_seq ?_
  refine c_region ?_
  refine l_pure S (p_move rfl) rfl rfl rfl ?_; clear S a; intro a S
  have hcon := li.upper_ nm _ (by omega) (hT _ H.below)
  refine l_call S rfl rfl Tryd.func58 rfl rfl (hcon) rfl rfl rfl ?_
  rintro e w ⟨rfl, hb⟩
  refine ⟨_, rfl, ?_⟩; clear S a; intro a S
  replace H := H.later hb; clear hb hcon
  revert S
  generalize (⟨(Lib.toUpperD nm.data.toList).toArray⟩ : ByteArray) = U
  intro S
  refine l_pure S (p_assign rfl) rfl rfl rfl ?_; clear S a; intro a S
  refine l_nil ?_
  refine e_then ?_
  refine wp_seq ?_
  refine wp_block ?_
  refine c_cut (fun a w => ∃ b : Bool, SL a 96 [] [(0, .string U), (1, .slice A l.length c), (4, .pointer (some ⟨g4, 0, none⟩)), (6, .pointer (some ⟨g6, 0, none⟩)), (21, .bool b)] ∧ HH (w0.heap.size) w0 w [(g6, .cells #[.slice none 0 0, .bool true, .bool (!b1_), .bool (!b1_)] 139 (0, 0)), (g4, .cells #[.slice none 0 0, .bool false, .bool false, .bool false] 139 (0, 0))] ∧ (b = false → 0 < l.length)) ?_ ?_
  · clear S a H; rintro a w ⟨b, S, H, hinv⟩
    refine c_cond S rfl (fun bc4 => ?_) (fun bc4 => ?_)
    · skip
      have c4 := bc4
      refine wp_skip ?_
      refine e_in 0 ?_
      refine e_then ?_
      refine wp_seq ?_
      refine c_region ?_
      refine l_read S H (r_loadn (m := 4) (vs := [.slice none 0 0, .bool true, .bool (!b1_), .bool (!b1_)]) rfl List.mem_cons_self ag139 sz139 rfl rfl) rfl rfl rfl ?_; clear S a; intro a S
      refine l_storeAll (vs := [.slice none 0 0, .bool true, .bool (!b1_), .bool (!b1_)]) S H rfl rfl rfl sz139 (.there .here) rfl (fun v hv => by simp only [List.mem_cons, List.not_mem_nil, or_false] at hv; rcases hv with rfl | rfl | rfl | rfl <;> rfl) rfl rfl ?_; clear S a H; intro w a H S
      refine l_nil ?_
      refine e_then ?_
      refine wp_ret ?_
      exact r_retc1 S rfl rfl (lva (cs := [.slice none 0 0, .bool true, .bool (!b1_), .bool (!b1_)]) ag139 sz139 rfl H (List.mem_cons_of_mem _ List.mem_cons_self)) ⟨_, _, _, _, _, _, rfl, H.below⟩
    · skip
      have c4 := bc4
      have hpos := hinv c4
      refine c_cut (fun a w => ∃ b : Bool, SL a 96 [] [(0, .string U), (1, .slice A l.length c), (4, .pointer (some ⟨g4, 0, none⟩)), (6, .pointer (some ⟨g6, 0, none⟩)), (30, .bool b)] ∧ HH (w0.heap.size) w0 w [(g6, .cells #[.slice none 0 0, .bool true, .bool (!b1_), .bool (!b1_)] 139 (0, 0)), (g4, .cells #[.slice none 0 0, .bool false, .bool false, .bool false] 139 (0, 0))] ∧ (b = true → 1 < l.length)) ?_ ?_
      · clear S a H; rintro a w ⟨b, S, H, hinv⟩
        refine c_cond S rfl (fun bc5 => ?_) (fun bc5 => ?_)
        · skip
          have c5 := bc5
          have hin := hinv c5
          refine c_region ?_
          refine l_pure S (p_move rfl) rfl rfl rfl ?_; clear S a; intro a S
          obtain ⟨Ak6, nk6, ck6, hk6⟩ := cut_lo (P := Tryd.prog) (A := A) (n := l.length) (c := c) (k := .i64) (l := 1)  Tryd.underlying36 sz9 (by omega) (by omega)
          refine l_pure S (p_slice rfl (o_some rfl) (fun _ _ => o_none) (fun _ _ => o_none) hk6) rfl rfl rfl ?_; clear S a; intro a S
          refine l_pure S (p_fieldAddr rfl (fun w => fa139_0 w _ _)) rfl rfl rfl ?_; clear S a; intro a S
          refine l_store S H rfl rfl rfl .here (by first | decide | simp [Value.cells]) (fun w u hc hz => st1 sz36 rfl hc hz) rfl rfl ?_; clear S a H; intro w a H S
          refine l_nil ?_
          refine e_in 0 ?_
          refine e_then ?_
          refine wp_seq ?_
          refine c_region ?_
          refine l_read S H (r_loadn (m := 4) (vs := [.slice Ak6 nk6 ck6, .bool true, .bool (!b1_), .bool (!b1_)]) rfl List.mem_cons_self ag139 sz139 rfl rfl) rfl rfl rfl ?_; clear S a; intro a S
          refine l_storeAll (vs := [.slice Ak6 nk6 ck6, .bool true, .bool (!b1_), .bool (!b1_)]) S H rfl rfl rfl sz139 (.there .here) rfl (fun v hv => by simp only [List.mem_cons, List.not_mem_nil, or_false] at hv; rcases hv with rfl | rfl | rfl | rfl <;> rfl) rfl rfl ?_; clear S a H; intro w a H S
          refine l_nil ?_
          refine e_then ?_
          refine wp_ret ?_
          exact r_retc1 S rfl rfl (lva (cs := [.slice Ak6 nk6 ck6, .bool true, .bool (!b1_), .bool (!b1_)]) ag139 sz139 rfl H (List.mem_cons_of_mem _ List.mem_cons_self)) ⟨_, _, _, _, _, _, rfl, H.below⟩
        · skip
          have c5 := bc5
          refine c_cut (fun a w => ∃ b : Bool, SL a 96 [] [(0, .string U), (1, .slice A l.length c), (4, .pointer (some ⟨g4, 0, none⟩)), (6, .pointer (some ⟨g6, 0, none⟩)), (41, .bool b)] ∧ HH (w0.heap.size) w0 w [(g6, .cells #[.slice none 0 0, .bool true, .bool (!b1_), .bool (!b1_)] 139 (0, 0)), (g4, .cells #[.slice none 0 0, .bool false, .bool false, .bool false] 139 (0, 0))] ∧ (b = true → 1 < l.length)) ?_ ?_
          · clear S a H; rintro a w ⟨b, S, H, hinv⟩
            refine c_cond S rfl (fun bc7 => ?_) (fun bc7 => ?_)
            · skip
              have c7 := bc7
              have hin := hinv c7
              refine c_region ?_
              refine l_pure S (p_move rfl) rfl rfl rfl ?_; clear S a; intro a S
              obtain ⟨Ak8, nk8, ck8, hk8⟩ := cut_both (P := Tryd.prog) (A := A) (n := l.length) (c := c) (k := .i64) (k' := .i64) (l := 1) (h := 2)  Tryd.underlying36 sz9 (by omega) (by omega) (by omega)
              refine l_pure S (p_slice rfl (o_some rfl) (o_some rfl) (fun _ _ => o_none) hk8) rfl rfl rfl ?_; clear S a; intro a S
              refine l_pure S (p_fieldAddr rfl (fun w => fa139_0 w _ _)) rfl rfl rfl ?_; clear S a; intro a S
              refine l_store S H rfl rfl rfl .here (by first | decide | simp [Value.cells]) (fun w u hc hz => st1 sz36 rfl hc hz) rfl rfl ?_; clear S a H; intro w a H S
              refine l_nil ?_
              refine e_in 0 ?_
              refine e_then ?_
              refine wp_seq ?_
              refine c_region ?_
              refine l_read S H (r_loadn (m := 4) (vs := [.slice Ak8 nk8 ck8, .bool true, .bool (!b1_), .bool (!b1_)]) rfl List.mem_cons_self ag139 sz139 rfl rfl) rfl rfl rfl ?_; clear S a; intro a S
              refine l_storeAll (vs := [.slice Ak8 nk8 ck8, .bool true, .bool (!b1_), .bool (!b1_)]) S H rfl rfl rfl sz139 (.there .here) rfl (fun v hv => by simp only [List.mem_cons, List.not_mem_nil, or_false] at hv; rcases hv with rfl | rfl | rfl | rfl <;> rfl) rfl rfl ?_; clear S a H; intro w a H S
              refine l_nil ?_
              refine e_then ?_
              refine wp_ret ?_
              exact r_retc1 S rfl rfl (lva (cs := [.slice Ak8 nk8 ck8, .bool true, .bool (!b1_), .bool (!b1_)]) ag139 sz139 rfl H (List.mem_cons_of_mem _ List.mem_cons_self)) ⟨_, _, _, _, _, _, rfl, H.below⟩
            · skip
              have c7 := bc7
              refine wp_seq ?_
              refine c_region ?_
              refine l_pure S (p_move rfl) rfl rfl rfl ?_; clear S a; intro a S
              refine l_pure S (p_seql rfl rfl) rfl rfl rfl ?_; clear S a; intro a S
              refine l_pure S (p_assign rfl) rfl rfl rfl ?_; clear S a; intro a S
              refine l_nil ?_
              refine e_then ?_
              refine c_cond S rfl (fun bc10 => ?_) (fun bc10 => ?_)
              · skip
                have c10 := bc10
                refine c_region ?_
                refine l_pure S (p_move rfl) rfl rfl rfl ?_; clear S a; intro a S
                have hcon := keys_ _ A c l (C_old hC H) hlc hl
                refine l_call S rfl rfl Tryd.func76 rfl rfl (hcon) rfl rfl rfl ?_
                rintro e w ⟨Ak11, nk11, ck11, rfl, hb⟩
                refine ⟨_, rfl, ?_⟩; clear S a; intro a S
                replace H := H.later hb; clear hb hcon
                refine l_pure S (p_fieldAddr rfl (fun w => fa139_0 w _ _)) rfl rfl rfl ?_; clear S a; intro a S
                refine l_store S H rfl rfl rfl .here (by first | decide | simp [Value.cells]) (fun w u hc hz => st1 sz36 rfl hc hz) rfl rfl ?_; clear S a H; intro w a H S
                refine l_nil ?_
                refine e_in 0 ?_
                refine e_then ?_
                refine wp_seq ?_
                refine c_region ?_
                refine l_read S H (r_loadn (m := 4) (vs := [.slice Ak11 nk11 ck11, .bool true, .bool (!b1_), .bool (!b1_)]) rfl List.mem_cons_self ag139 sz139 rfl rfl) rfl rfl rfl ?_; clear S a; intro a S
                refine l_storeAll (vs := [.slice Ak11 nk11 ck11, .bool true, .bool (!b1_), .bool (!b1_)]) S H rfl rfl rfl sz139 (.there .here) rfl (fun v hv => by simp only [List.mem_cons, List.not_mem_nil, or_false] at hv; rcases hv with rfl | rfl | rfl | rfl <;> rfl) rfl rfl ?_; clear S a H; intro w a H S
                refine l_nil ?_
                refine e_then ?_
                refine wp_ret ?_
                exact r_retc1 S rfl rfl (lva (cs := [.slice Ak11 nk11 ck11, .bool true, .bool (!b1_), .bool (!b1_)]) ag139 sz139 rfl H (List.mem_cons_of_mem _ List.mem_cons_self)) ⟨_, _, _, _, _, _, rfl, H.below⟩
              · skip
                have c10 := bc10
                refine wp_seq ?_
                refine c_region ?_
                refine l_pure S (p_move rfl) rfl rfl rfl ?_; clear S a; intro a S
                refine l_pure S (p_seql rfl rfl) rfl rfl rfl ?_; clear S a; intro a S
                refine l_pure S (p_assign rfl) rfl rfl rfl ?_; clear S a; intro a S
                refine l_nil ?_
                refine e_then ?_
                refine c_cond S rfl (fun bc13 => ?_) (fun bc13 => ?_)
                · skip
                  have c13 := bc13
                  refine wp_seq ?_
                  refine c_region ?_
                  refine l_pure S (p_move rfl) rfl rfl rfl ?_; clear S a; intro a S
                  refine l_pure S (p_len Tryd.underlying36 rfl) rfl rfl rfl ?_; clear S a; intro a S
                  refine l_pure S (p_geq rfl rfl) rfl rfl rfl ?_; clear S a; intro a S
                  refine l_nil ?_
                  refine e_then ?_
                  refine c_cond S rfl (fun bc15 => ?_) (fun bc15 => ?_)
                  · skip
                    have c15 := bc15
                    have c15 := of_decide_eq_true c15
                    refine c_region ?_
                    refine l_pure S (p_move rfl) rfl rfl rfl ?_; clear S a; intro a S
                    obtain ⟨Ak16, nk16, ck16, hk16⟩ := cut_both (P := Tryd.prog) (A := A) (n := l.length) (c := c) (k := .i64) (k' := .i64) (l := 1) (h := 2)  Tryd.underlying36 sz9 (by omega) (by omega) (by omega)
                    refine l_pure S (p_slice rfl (o_some rfl) (o_some rfl) (fun _ _ => o_none) hk16) rfl rfl rfl ?_; clear S a; intro a S
                    refine l_pure S (p_fieldAddr rfl (fun w => fa139_0 w _ _)) rfl rfl rfl ?_; clear S a; intro a S
                    refine l_store S H rfl rfl rfl .here (by first | decide | simp [Value.cells]) (fun w u hc hz => st1 sz36 rfl hc hz) rfl rfl ?_; clear S a H; intro w a H S
                    refine l_nil ?_
                    refine e_in 0 ?_
                    refine e_then ?_
                    refine wp_seq ?_
                    refine c_region ?_
                    refine l_read S H (r_loadn (m := 4) (vs := [.slice Ak16 nk16 ck16, .bool true, .bool (!b1_), .bool (!b1_)]) rfl List.mem_cons_self ag139 sz139 rfl rfl) rfl rfl rfl ?_; clear S a; intro a S
                    refine l_storeAll (vs := [.slice Ak16 nk16 ck16, .bool true, .bool (!b1_), .bool (!b1_)]) S H rfl rfl rfl sz139 (.there .here) rfl (fun v hv => by simp only [List.mem_cons, List.not_mem_nil, or_false] at hv; rcases hv with rfl | rfl | rfl | rfl <;> rfl) rfl rfl ?_; clear S a H; intro w a H S
                    refine l_nil ?_
                    refine e_then ?_
                    refine wp_ret ?_
                    exact r_retc1 S rfl rfl (lva (cs := [.slice Ak16 nk16 ck16, .bool true, .bool (!b1_), .bool (!b1_)]) ag139 sz139 rfl H (List.mem_cons_of_mem _ List.mem_cons_self)) ⟨_, _, _, _, _, _, rfl, H.below⟩
                  · skip
                    have c15 := bc15
                    have c15 := of_decide_eq_false c15
                    refine wp_skip ?_
                    refine e_in 0 ?_
                    refine e_then ?_
                    refine wp_seq ?_
                    refine c_region ?_
                    refine l_read S H (r_loadn (m := 4) (vs := [.slice none 0 0, .bool true, .bool (!b1_), .bool (!b1_)]) rfl List.mem_cons_self ag139 sz139 rfl rfl) rfl rfl rfl ?_; clear S a; intro a S
                    refine l_storeAll (vs := [.slice none 0 0, .bool true, .bool (!b1_), .bool (!b1_)]) S H rfl rfl rfl sz139 (.there .here) rfl (fun v hv => by simp only [List.mem_cons, List.not_mem_nil, or_false] at hv; rcases hv with rfl | rfl | rfl | rfl <;> rfl) rfl rfl ?_; clear S a H; intro w a H S
                    refine l_nil ?_
                    refine e_then ?_
                    refine wp_ret ?_
                    exact r_retc1 S rfl rfl (lva (cs := [.slice none 0 0, .bool true, .bool (!b1_), .bool (!b1_)]) ag139 sz139 rfl H (List.mem_cons_of_mem _ List.mem_cons_self)) ⟨_, _, _, _, _, _, rfl, H.below⟩
                · skip
                  have c13 := bc13
                  refine c_cut (fun a w => ∃ b : Bool, SL a 96 [] [(0, .string U), (1, .slice A l.length c), (4, .pointer (some ⟨g4, 0, none⟩)), (6, .pointer (some ⟨g6, 0, none⟩)), (74, .bool b)] ∧ HH (w0.heap.size) w0 w [(g6, .cells #[.slice none 0 0, .bool true, .bool (!b1_), .bool (!b1_)] 139 (0, 0)), (g4, .cells #[.slice none 0 0, .bool false, .bool false, .bool false] 139 (0, 0))] ∧ (b = true → 1 < l.length)) ?_ ?_
                  · clear S a H; rintro a w ⟨b, S, H, hinv⟩
                    refine c_cond S rfl (fun bc17 => ?_) (fun bc17 => ?_)
                    · skip
                      have c17 := bc17
                      have hin := hinv c17
                      refine c_region ?_
                      refine l_pure S (p_move rfl) rfl rfl rfl ?_; clear S a; intro a S
                      obtain ⟨Ak18, nk18, ck18, hk18⟩ := cut_both (P := Tryd.prog) (A := A) (n := l.length) (c := c) (k := .i64) (k' := .i64) (l := 1) (h := 2)  Tryd.underlying36 sz9 (by omega) (by omega) (by omega)
                      refine l_pure S (p_slice rfl (o_some rfl) (o_some rfl) (fun _ _ => o_none) hk18) rfl rfl rfl ?_; clear S a; intro a S
                      refine l_pure S (p_fieldAddr rfl (fun w => fa139_0 w _ _)) rfl rfl rfl ?_; clear S a; intro a S
                      refine l_store S H rfl rfl rfl .here (by first | decide | simp [Value.cells]) (fun w u hc hz => st1 sz36 rfl hc hz) rfl rfl ?_; clear S a H; intro w a H S
                      refine l_nil ?_
                      refine e_in 0 ?_
                      refine e_then ?_
                      refine wp_seq ?_
                      refine c_region ?_
                      refine l_read S H (r_loadn (m := 4) (vs := [.slice Ak18 nk18 ck18, .bool true, .bool (!b1_), .bool (!b1_)]) rfl List.mem_cons_self ag139 sz139 rfl rfl) rfl rfl rfl ?_; clear S a; intro a S
                      refine l_storeAll (vs := [.slice Ak18 nk18 ck18, .bool true, .bool (!b1_), .bool (!b1_)]) S H rfl rfl rfl sz139 (.there .here) rfl (fun v hv => by simp only [List.mem_cons, List.not_mem_nil, or_false] at hv; rcases hv with rfl | rfl | rfl | rfl <;> rfl) rfl rfl ?_; clear S a H; intro w a H S
                      refine l_nil ?_
                      refine e_then ?_
                      refine wp_ret ?_
                      exact r_retc1 S rfl rfl (lva (cs := [.slice Ak18 nk18 ck18, .bool true, .bool (!b1_), .bool (!b1_)]) ag139 sz139 rfl H (List.mem_cons_of_mem _ List.mem_cons_self)) ⟨_, _, _, _, _, _, rfl, H.below⟩
                    · skip
                      have c17 := bc17
                      refine c_cut (fun a w => ∃ b : Bool, SL a 96 [] [(0, .string U), (1, .slice A l.length c), (4, .pointer (some ⟨g4, 0, none⟩)), (6, .pointer (some ⟨g6, 0, none⟩)), (85, .bool b)] ∧ HH (w0.heap.size) w0 w [(g6, .cells #[.slice none 0 0, .bool true, .bool (!b1_), .bool (!b1_)] 139 (0, 0)), (g4, .cells #[.slice none 0 0, .bool false, .bool false, .bool false] 139 (0, 0))] ∧ True) ?_ ?_
                      · clear S a H; rintro a w ⟨b, S, H, hinv⟩
                        refine c_cond S rfl (fun bc19 => ?_) (fun bc19 => ?_)
                        · skip
                          have c19 := bc19
                          refine c_region ?_
                          refine l_pure S (p_move rfl) rfl rfl rfl ?_; clear S a; intro a S
                          have hcon := streams_ _ A c l (C_old hC H) hlc hl hls (fun w hb => hT w (H.later hb).below)
                          refine l_call S rfl rfl Tryd.func77 rfl rfl (hcon) rfl rfl rfl ?_
                          rintro e w ⟨Ak20, nk20, ck20, rfl, hb⟩
                          refine ⟨_, rfl, ?_⟩; clear S a; intro a S
                          replace H := H.later hb; clear hb hcon
                          refine l_pure S (p_fieldAddr rfl (fun w => fa139_0 w _ _)) rfl rfl rfl ?_; clear S a; intro a S
                          refine l_store S H rfl rfl rfl .here (by first | decide | simp [Value.cells]) (fun w u hc hz => st1 sz36 rfl hc hz) rfl rfl ?_; clear S a H; intro w a H S
                          refine l_nil ?_
                          refine e_in 0 ?_
                          refine e_then ?_
                          refine wp_seq ?_
                          refine c_region ?_
                          refine l_read S H (r_loadn (m := 4) (vs := [.slice Ak20 nk20 ck20, .bool true, .bool (!b1_), .bool (!b1_)]) rfl List.mem_cons_self ag139 sz139 rfl rfl) rfl rfl rfl ?_; clear S a; intro a S
                          refine l_storeAll (vs := [.slice Ak20 nk20 ck20, .bool true, .bool (!b1_), .bool (!b1_)]) S H rfl rfl rfl sz139 (.there .here) rfl (fun v hv => by simp only [List.mem_cons, List.not_mem_nil, or_false] at hv; rcases hv with rfl | rfl | rfl | rfl <;> rfl) rfl rfl ?_; clear S a H; intro w a H S
                          refine l_nil ?_
                          refine e_then ?_
                          refine wp_ret ?_
                          exact r_retc1 S rfl rfl (lva (cs := [.slice Ak20 nk20 ck20, .bool true, .bool (!b1_), .bool (!b1_)]) ag139 sz139 rfl H (List.mem_cons_of_mem _ List.mem_cons_self)) ⟨_, _, _, _, _, _, rfl, H.below⟩
                        · skip
                          have c19 := bc19
                          refine c_region ?_
                          refine l_pure S (p_move rfl) rfl rfl rfl ?_; clear S a; intro a S
                          obtain ⟨Ak21, nk21, ck21, hk21⟩ := cut_hi (P := Tryd.prog) (A := A) (n := l.length) (c := c) (k := .i64) (l := 1)  Tryd.underlying36 sz9 (by omega) (by omega)
                          refine l_pure S (p_slice rfl (fun _ _ => o_none) (o_some rfl) (fun _ _ => o_none) hk21) rfl rfl rfl ?_; clear S a; intro a S
                          refine l_pure S (p_fieldAddr rfl (fun w => fa139_0 w _ _)) rfl rfl rfl ?_; clear S a; intro a S
                          refine l_store S H rfl rfl rfl .here (by first | decide | simp [Value.cells]) (fun w u hc hz => st1 sz36 rfl hc hz) rfl rfl ?_; clear S a H; intro w a H S
                          refine l_nil ?_
                          refine e_in 0 ?_
                          refine e_then ?_
                          refine wp_seq ?_
                          refine c_region ?_
                          refine l_read S H (r_loadn (m := 4) (vs := [.slice Ak21 nk21 ck21, .bool true, .bool (!b1_), .bool (!b1_)]) rfl List.mem_cons_self ag139 sz139 rfl rfl) rfl rfl rfl ?_; clear S a; intro a S
                          refine l_storeAll (vs := [.slice Ak21 nk21 ck21, .bool true, .bool (!b1_), .bool (!b1_)]) S H rfl rfl rfl sz139 (.there .here) rfl (fun v hv => by simp only [List.mem_cons, List.not_mem_nil, or_false] at hv; rcases hv with rfl | rfl | rfl | rfl <;> rfl) rfl rfl ?_; clear S a H; intro w a H S
                          refine l_nil ?_
                          refine e_then ?_
                          refine wp_ret ?_
                          exact r_retc1 S rfl rfl (lva (cs := [.slice Ak21 nk21 ck21, .bool true, .bool (!b1_), .bool (!b1_)]) ag139 sz139 rfl H (List.mem_cons_of_mem _ List.mem_cons_self)) ⟨_, _, _, _, _, _, rfl, H.below⟩
                      · skip
                        refine c_region ?_
                        refine l_pure S (p_move rfl) rfl rfl rfl ?_; clear S a; intro a S
                        refine l_pure S (p_seql rfl rfl) rfl rfl rfl ?_; clear S a; intro a S
                        refine l_pure S (p_move rfl) rfl rfl rfl ?_; clear S a; intro a S
                        refine l_split (S.of 88 rfl) (fun bc23 => ?_) (fun bc23 => ?_)
                        · skip
                          refine l_off S rfl rfl rfl rfl bc23 rfl rfl ?_; clear S a; intro a S
                          refine l_off S rfl rfl rfl rfl bc23 rfl rfl ?_; clear S a; intro a S
                          refine l_pure S (p_pick_t rfl bc23 rfl) rfl rfl rfl ?_; clear S a; intro a S
                          refine l_pure S (p_assign rfl) rfl rfl rfl ?_; clear S a; intro a S
                          refine l_nil ?_
                          refine e_then ?_
                          exact ⟨_, S.only ⟨rfl, rfl, rfl, rfl, rfl, trivial⟩, H, trivial⟩
                        · skip
                          refine l_on S rfl rfl rfl rfl bc23 ?_
                          refine l_pure S (p_move rfl) rfl rfl rfl ?_; clear S a; intro a S
                          refine l_on S rfl rfl rfl rfl bc23 ?_
                          refine l_pure S (p_seql rfl rfl) rfl rfl rfl ?_; clear S a; intro a S
                          refine l_pure S (p_pick_f rfl bc23 rfl) rfl rfl rfl ?_; clear S a; intro a S
                          refine l_pure S (p_assign rfl) rfl rfl rfl ?_; clear S a; intro a S
                          refine l_nil ?_
                          refine e_then ?_
                          exact ⟨_, S.only ⟨rfl, rfl, rfl, rfl, rfl, trivial⟩, H, trivial⟩
                  · skip
                    refine c_region ?_
                    refine l_pure S (p_move rfl) rfl rfl rfl ?_; clear S a; intro a S
                    refine l_pure S (p_seql rfl rfl) rfl rfl rfl ?_; clear S a; intro a S
                    refine l_pure S (p_move rfl) rfl rfl rfl ?_; clear S a; intro a S
                    refine l_split (S.of 77 rfl) (fun bc27 => ?_) (fun bc27 => ?_)
                    · skip
                      refine l_on S rfl rfl rfl rfl bc27 ?_
                      refine l_pure S (p_move rfl) rfl rfl rfl ?_; clear S a; intro a S
                      refine l_on S rfl rfl rfl rfl bc27 ?_
                      refine l_pure S (p_len Tryd.underlying36 rfl) rfl rfl rfl ?_; clear S a; intro a S
                      refine l_on S rfl rfl rfl rfl bc27 ?_
                      refine l_pure S (p_gtr rfl rfl) rfl rfl rfl ?_; clear S a; intro a S
                      refine l_pure S (p_pick_t rfl bc27 rfl) rfl rfl rfl ?_; clear S a; intro a S
                      refine l_pure S (p_assign rfl) rfl rfl rfl ?_; clear S a; intro a S
                      refine l_nil ?_
                      refine e_then ?_
                      exact ⟨_, S.only ⟨rfl, rfl, rfl, rfl, rfl, trivial⟩, H, fun hb => by first | omega | (cases hb; done) | (have h1 := of_decide_eq_true hb; omega)⟩
                    · skip
                      refine l_off S rfl rfl rfl rfl bc27 rfl rfl ?_; clear S a; intro a S
                      refine l_off S rfl rfl rfl rfl bc27 rfl rfl ?_; clear S a; intro a S
                      refine l_off S rfl rfl rfl rfl bc27 rfl rfl ?_; clear S a; intro a S
                      refine l_pure S (p_pick_f rfl bc27 rfl) rfl rfl rfl ?_; clear S a; intro a S
                      refine l_pure S (p_assign rfl) rfl rfl rfl ?_; clear S a; intro a S
                      refine l_nil ?_
                      refine e_then ?_
                      exact ⟨_, S.only ⟨rfl, rfl, rfl, rfl, rfl, trivial⟩, H, fun hb => by first | omega | (cases hb; done) | (have h1 := of_decide_eq_true hb; omega)⟩
          · skip
            refine c_region ?_
            refine l_pure S (p_move rfl) rfl rfl rfl ?_; clear S a; intro a S
            refine l_pure S (p_seql rfl rfl) rfl rfl rfl ?_; clear S a; intro a S
            refine l_pure S (p_move rfl) rfl rfl rfl ?_; clear S a; intro a S
            refine l_split (S.of 44 rfl) (fun bc31 => ?_) (fun bc31 => ?_)
            · skip
              refine l_on S rfl rfl rfl rfl bc31 ?_
              refine l_pure S (p_move rfl) rfl rfl rfl ?_; clear S a; intro a S
              refine l_on S rfl rfl rfl rfl bc31 ?_
              refine l_pure S (p_len Tryd.underlying36 rfl) rfl rfl rfl ?_; clear S a; intro a S
              refine l_on S rfl rfl rfl rfl bc31 ?_
              refine l_pure S (p_gtr rfl rfl) rfl rfl rfl ?_; clear S a; intro a S
              refine l_pure S (p_pick_t rfl bc31 rfl) rfl rfl rfl ?_; clear S a; intro a S
              refine l_pure S (p_move rfl) rfl rfl rfl ?_; clear S a; intro a S
              refine l_split (S.of 49 rfl) (fun bc33 => ?_) (fun bc33 => ?_)
              · skip
                have c33 := bc33
                have c33 := of_decide_eq_true c33
                refine l_on S rfl rfl rfl rfl bc33 ?_
                refine l_pure S (p_move rfl) rfl rfl rfl ?_; clear S a; intro a S
                refine l_on S rfl rfl rfl rfl bc33 ?_
                obtain ⟨ad, hA⟩ := C_some hC (show 0 < l.length by omega)
                subst hA
                refine l_pure S (p_indexAddr rfl rfl (fun w => ia_any Tryd.underlying36 sz9 (by omega) (by omega))) rfl rfl rfl ?_; clear S a; intro a S
                refine l_on S rfl rfl rfl rfl bc33 ?_
                refine l_read S H (r_row (i := 0) hC rfl rfl (get_some ByteArray.empty (by omega)) ag9 rfl) rfl rfl rfl ?_; clear S a; intro a S
                refine l_on S rfl rfl rfl rfl bc33 ?_
                have hcon := li.upper_ (l.getD 0 ByteArray.empty) _ (by have := hls _ (mem_getD (show 0 < l.length by omega)); omega) (hT _ H.below)
                refine l_call S rfl rfl Tryd.func58 rfl rfl (hcon) rfl rfl rfl ?_
                rintro e w ⟨rfl, hb⟩
                refine ⟨_, rfl, ?_⟩; clear S a; intro a S
                replace H := H.later hb; clear hb hcon
                refine l_on S rfl rfl rfl rfl bc33 ?_
                refine l_pure S (p_seql rfl rfl) rfl rfl rfl ?_; clear S a; intro a S
                refine l_pure S (p_pick_t rfl bc33 rfl) rfl rfl rfl ?_; clear S a; intro a S
                refine l_pure S (p_assign rfl) rfl rfl rfl ?_; clear S a; intro a S
                refine l_nil ?_
                refine e_then ?_
                exact ⟨_, S.only ⟨rfl, rfl, rfl, rfl, rfl, trivial⟩, H, fun hb => by first | omega | (cases hb; done) | (have h1 := of_decide_eq_true hb; omega)⟩
              · skip
                have c33 := bc33
                have c33 := of_decide_eq_false c33
                refine l_off S rfl rfl rfl rfl bc33 rfl rfl ?_; clear S a; intro a S
                refine l_off S rfl rfl rfl rfl bc33 rfl rfl ?_; clear S a; intro a S
                refine l_off S rfl rfl rfl rfl bc33 rfl rfl ?_; clear S a; intro a S
                refine l_off S rfl rfl rfl rfl bc33 rfl rfl ?_; clear S a; intro a S
                refine l_off S rfl rfl rfl rfl bc33 rfl rfl ?_; clear S a; intro a S
                refine l_pure S (p_pick_f rfl bc33 rfl) rfl rfl rfl ?_; clear S a; intro a S
                refine l_pure S (p_assign rfl) rfl rfl rfl ?_; clear S a; intro a S
                refine l_nil ?_
                refine e_then ?_
                exact ⟨_, S.only ⟨rfl, rfl, rfl, rfl, rfl, trivial⟩, H, fun hb => by first | omega | (cases hb; done) | (have h1 := of_decide_eq_true hb; omega)⟩
            · skip
              refine l_off S rfl rfl rfl rfl bc31 rfl rfl ?_; clear S a; intro a S
              refine l_off S rfl rfl rfl rfl bc31 rfl rfl ?_; clear S a; intro a S
              refine l_off S rfl rfl rfl rfl bc31 rfl rfl ?_; clear S a; intro a S
              refine l_pure S (p_pick_f rfl bc31 rfl) rfl rfl rfl ?_; clear S a; intro a S
              refine l_pure S (p_move rfl) rfl rfl rfl ?_; clear S a; intro a S
              refine l_off S rfl rfl rfl rfl rfl rfl rfl ?_; clear S a; intro a S
              refine l_off S rfl rfl rfl rfl rfl rfl rfl ?_; clear S a; intro a S
              refine l_off S rfl rfl rfl rfl rfl rfl rfl ?_; clear S a; intro a S
              refine l_off S rfl rfl rfl rfl rfl rfl rfl ?_; clear S a; intro a S
              refine l_off S rfl rfl rfl rfl rfl rfl rfl ?_; clear S a; intro a S
              refine l_pure S (p_pick_f rfl rfl rfl) rfl rfl rfl ?_; clear S a; intro a S
              refine l_pure S (p_assign rfl) rfl rfl rfl ?_; clear S a; intro a S
              refine l_nil ?_
              refine e_then ?_
              exact ⟨_, S.only ⟨rfl, rfl, rfl, rfl, rfl, trivial⟩, H, fun hb => by first | omega | (cases hb; done) | (have h1 := of_decide_eq_true hb; omega)⟩
      · skip
        refine c_region ?_
        refine l_pure S (p_move rfl) rfl rfl rfl ?_; clear S a; intro a S
        refine l_pure S (p_seql rfl rfl) rfl rfl rfl ?_; clear S a; intro a S
        refine l_pure S (p_move rfl) rfl rfl rfl ?_; clear S a; intro a S
        refine l_split (S.of 33 rfl) (fun bc39 => ?_) (fun bc39 => ?_)
        · skip
          refine l_on S rfl rfl rfl rfl bc39 ?_
          refine l_pure S (p_move rfl) rfl rfl rfl ?_; clear S a; intro a S
          refine l_on S rfl rfl rfl rfl bc39 ?_
          refine l_pure S (p_len Tryd.underlying36 rfl) rfl rfl rfl ?_; clear S a; intro a S
          refine l_on S rfl rfl rfl rfl bc39 ?_
          refine l_pure S (p_gtr rfl rfl) rfl rfl rfl ?_; clear S a; intro a S
          refine l_pure S (p_pick_t rfl bc39 rfl) rfl rfl rfl ?_; clear S a; intro a S
          refine l_pure S (p_assign rfl) rfl rfl rfl ?_; clear S a; intro a S
          refine l_nil ?_
          refine e_then ?_
          exact ⟨_, S.only ⟨rfl, rfl, rfl, rfl, rfl, trivial⟩, H, fun hb => by first | omega | (cases hb; done) | (have h1 := of_decide_eq_true hb; omega)⟩
        · skip
          refine l_off S rfl rfl rfl rfl bc39 rfl rfl ?_; clear S a; intro a S
          refine l_off S rfl rfl rfl rfl bc39 rfl rfl ?_; clear S a; intro a S
          refine l_off S rfl rfl rfl rfl bc39 rfl rfl ?_; clear S a; intro a S
          refine l_pure S (p_pick_f rfl bc39 rfl) rfl rfl rfl ?_; clear S a; intro a S
          refine l_pure S (p_assign rfl) rfl rfl rfl ?_; clear S a; intro a S
          refine l_nil ?_
          refine e_then ?_
          exact ⟨_, S.only ⟨rfl, rfl, rfl, rfl, rfl, trivial⟩, H, fun hb => by first | omega | (cases hb; done) | (have h1 := of_decide_eq_true hb; omega)⟩
  · skip
    refine c_region ?_
    refine l_call S rfl rfl Tryd.func75 rfl rfl (nokey_ w0 _ _ _ H) rfl rfl rfl ?_
    rintro e w ⟨gm2, es2, cm2, rfl, hM2, hH⟩
    refine ⟨_, rfl, ?_⟩; clear S a; intro a S
    clear H; have H := hH; clear hH
    refine l_pure S (p_move rfl) rfl rfl rfl ?_; clear S a; intro a S
    refine l_read S H (r_lookup hM2 List.mem_cons_self rfl rfl Tryd.underlying168 Tryd.underlying9 zv4) rfl rfl rfl ?_; clear S a; intro a S
    replace H := H.tail
    revert S
    generalize mget es2 U = b2_
    intro S
    refine l_pure S (p_move rfl) rfl rfl rfl ?_; clear S a; intro a S
    refine l_split (S.of 25 rfl) (fun bc43 => ?_) (fun bc43 => ?_)
    · skip
      refine l_off S rfl rfl rfl rfl bc43 rfl rfl ?_; clear S a; intro a S
      refine l_off S rfl rfl rfl rfl bc43 rfl rfl ?_; clear S a; intro a S
      refine l_off S rfl rfl rfl rfl bc43 rfl rfl ?_; clear S a; intro a S
      refine l_pure S (p_pick_t rfl bc43 rfl) rfl rfl rfl ?_; clear S a; intro a S
      refine l_pure S (p_assign rfl) rfl rfl rfl ?_; clear S a; intro a S
      refine l_nil ?_
      refine e_then ?_
      exact ⟨_, S.only ⟨rfl, rfl, rfl, rfl, rfl, trivial⟩, H, fun hb => by first | omega | (cases hb; done) | (have h1 := ne_of_beq_false hb; omega)⟩
    · skip
      refine l_on S rfl rfl rfl rfl bc43 ?_
      refine l_pure S (p_move rfl) rfl rfl rfl ?_; clear S a; intro a S
      refine l_on S rfl rfl rfl rfl bc43 ?_
      refine l_pure S (p_len Tryd.underlying36 rfl) rfl rfl rfl ?_; clear S a; intro a S
      refine l_on S rfl rfl rfl rfl bc43 ?_
      refine l_pure S (p_eql rfl rfl) rfl rfl rfl ?_; clear S a; intro a S
      refine l_pure S (p_pick_f rfl bc43 rfl) rfl rfl rfl ?_; clear S a; intro a S
      refine l_pure S (p_assign rfl) rfl rfl rfl ?_; clear S a; intro a S
      refine l_nil ?_
      refine e_then ?_
      exact ⟨_, S.only ⟨rfl, rfl, rfl, rfl, rfl, trivial⟩, H, fun hb => by first | omega | (cases hb; done) | (have h1 := ne_of_beq_false hb; omega)⟩
theorem actp_ (w0 : World) (nm : ByteArray) (hnm : nm.size ≤ 1000) (A : Option Addr) (c : Nat) (l : List ByteArray) (hC : Kd.string.C w0 A l.length l) (hlc : l.length ≤ c) (hl : l.length ≤ 1000) (hls : ∀ s ∈ l, s.size ≤ 1000) (hT : ∀ w, Below w0.heap.size w0 w → li.Tabs w) : Calls Tryd.prog 57 #[.agg #[.nilFunc], .string nm, .slice A l.length c] w0 fun e w' => ∃ A' n' c' b1 b2 b3, e = .returned (.agg #[.slice A' n' c', .bool b1, .bool b2, .bool b3]) ∧ Below w0.heap.size w0 w' := by
  have H := HH.start w0
  refine c_enter (args := [.agg #[.nilFunc], .string nm, .slice A l.length c]) (k := 13) Tryd.func57 rfl rfl rfl (fun a S => ?_)
  refine wp_seq ?_
  refine c_region ?_
  refine l_box (cs := #[.nilFunc]) S H rfl rfl (fun w => bx) rfl rfl rfl ?_; clear S a H; intro g1 w a H S
  refine l_alloc (cs := #[.slice none 0 0, .bool false, .bool false, .bool false]) S H rfl (fun w => al zv139) rfl rfl rfl ?_; clear S a H; intro g6 w a H S
  refine l_nil ?_
  refine e_then ?_
  refine wp_seq ?_
  refine c_region ?_
  refine l_pure S (p_fieldAddr rfl (fun w => fa113_0 w _ _)) rfl rfl rfl ?_; clear S a; intro a S
  refine l_read S H (r_load rfl (List.mem_cons_of_mem _ List.mem_cons_self) rfl (fun w hc => ld1 ag111 hc)) rfl rfl rfl ?_; clear S a; intro a S
  refine l_pure S (p_assign rfl) rfl rfl rfl ?_; clear S a; intro a S
  refine l_nil ?_
  refine e_then ?_
  refine wp_seq ?_
  refine wp_seq ?_
  refine c_region ?_
  refine l_pure S (p_move rfl) rfl rfl rfl ?_; clear S a; intro a S
  refine l_pure S (p_bin (v := .bool true) rfl rfl (fun w => by kernel_rfl) (fun w => by kernel_rfl)) rfl rfl rfl ?_; clear S a; intro a S
  refine l_nil ?_
  refine e_then ?_
  refine c_cond (b := true) S rfl (fun _ => ?_) (fun h => by cases h)
  refine c_region ?_
  refine l_pure S (p_assign rfl) rfl rfl rfl ?_; clear S a; intro a S
  refine l_nil ?_
  refine e_then ?_
  refine wp_seq ?_
  refine c_region ?_
  refine l_pure S (p_move rfl) rfl rfl rfl ?_; clear S a; intro a S
  refine l_pure S (p_move rfl) rfl rfl rfl ?_; clear S a; intro a S
  refine l_pure S (p_move rfl) rfl rfl rfl ?_; clear S a; intro a S
  have hcon := props_ _ nm hnm A c l (C_old hC H) hlc hl hls (fun w hb => hT w (H.later hb).below)
  refine l_callv (us := []) (cs := []) S rfl rfl rfl Tryd.func65 rfl rfl hcon rfl rfl rfl ?_
  rintro e w ⟨A1, n1, c1, b1, b2, b3, rfl, hb⟩
  refine ⟨_, rfl, ?_⟩; clear S a; intro a S
  replace H := H.later hb; clear hb hcon
  refine l_storeAll (vs := [.slice A1 n1 c1, .bool b1, .bool b2, .bool b3]) S H rfl rfl rfl sz139 .here rfl (fun v hv => by simp only [List.mem_cons, List.not_mem_nil, or_false] at hv; rcases hv with rfl | rfl | rfl | rfl <;> rfl) rfl rfl ?_; clear S a H; intro w a H S
  refine l_nil ?_
  refine e_then ?_
  refine wp_ret ?_
  exact r_retc1 S rfl rfl (lva (cs := [.slice A1 n1 c1, .bool b1, .bool b2, .bool b3]) ag139 sz139 rfl H List.mem_cons_self) ⟨_, _, _, _, _, _, rfl, H.below⟩
theorem cmd_ (w0 : World) (nm : ByteArray) (hnm : nm.size ≤ 1000) (A : Option Addr) (c : Nat) (l : List ByteArray) (hC : Kd.string.C w0 A l.length l) (hlc : l.length ≤ c) (hl : l.length ≤ 1000) (hls : ∀ s ∈ l, s.size ≤ 1000) (hT : ∀ w, Below w0.heap.size w0 w → li.Tabs w) : Calls Tryd.prog 49 #[.agg #[.nilFunc], .nilIface, .string nm, .slice A l.length c] w0 fun e w' => ∃ g A' n' c' b1 b2 b3, e = .returned (.pointer (some ⟨g, 0, none⟩)) ∧ HH w0.heap.size w0 w' [(g, .cells #[.nilIface, .string nm, .slice A l.length c, .slice A' n' c', .bool b1, .bool b2, .bool b3, .nilIface] 141 (0, 0))] := by
  have H := HH.start w0
  refine c_enter (args := [.agg #[.nilFunc], .nilIface, .string nm, .slice A l.length c]) (k := 25) Tryd.func49 rfl rfl rfl (fun a S => ?_)
  refine wp_seq ?_
  refine c_region ?_
  refine l_box (cs := #[.nilFunc]) S H rfl rfl (fun w => bx) rfl rfl rfl ?_; clear S a H; intro g1 w a H S
  refine l_pure S (p_assign rfl) rfl rfl rfl ?_; clear S a; intro a S
  refine l_nil ?_
  refine e_then ?_
  refine wp_seq ?_
  refine c_region ?_
  refine l_pure S (p_move rfl) rfl rfl rfl ?_; clear S a; intro a S
  refine l_pure S (p_move rfl) rfl rfl rfl ?_; clear S a; intro a S
  refine l_pure S (p_move rfl) rfl rfl rfl ?_; clear S a; intro a S
  refine l_pure S (p_bld (ps := [(0, .tmp 10), (1, .tmp 11), (2, .tmp 12)]) rfl (bld141_0_1_2n00 _ _ _ _)) rfl rfl rfl ?_; clear S a; intro a S
  refine l_box (cs := #[.nilIface, .string nm, .slice A l.length c, .slice none 0 0, .bool false, .bool false, .bool false, .nilIface]) S H rfl rfl (fun w => bx) rfl rfl rfl ?_; clear S a H; intro g2 w a H S
  refine l_pure S (p_assign rfl) rfl rfl rfl ?_; clear S a; intro a S
  refine l_nil ?_
  refine e_then ?_
  refine wp_seq ?_
  refine d_start (id := 2) [13] 14 #[false, false, false, false, false, false, false, false, false, false, false, false, false, false] H rfl rfl rfl (fun w H => ?_)
  refine d_pure (i := 0) #[true, false, false, false, false, false, false, false, false, false, false, false, false, false] S rfl (p_move rfl) (wanted_none rfl) rfl rfl (by kernel_rfl) (fun _ _ _ h => h) ?_; clear S a; intro a S
  refine d_read (i := 1) #[true, true, false, false, false, false, false, false, false, false, false, false, false, false] S H rfl (r_loadn (m := 1) (vs := [.nilFunc]) rfl (List.mem_cons_of_mem _ List.mem_cons_self) ag113 sz113 rfl rfl) (wanted_none rfl) rfl rfl (by kernel_rfl) (fun _ _ _ h => h) ?_; clear S a; intro a S
  refine d_pure (i := 2) #[true, true, true, false, false, false, false, false, false, false, false, false, false, false] S rfl (p_move rfl) (wanted_none rfl) rfl rfl (by kernel_rfl) (fun _ _ _ h => h) ?_; clear S a; intro a S
  refine d_pure (i := 3) #[true, true, true, true, false, false, false, false, false, false, false, false, false, false] S rfl (p_nilCheck rfl) (wanted_none rfl) rfl rfl (by kernel_rfl) (fun _ _ _ h => h) ?_; clear S a; intro a S
  refine d_pure (i := 4) #[true, true, true, true, true, false, false, false, false, false, false, false, false, false] S rfl (p_fieldAddr rfl (fun w => fa141_1 w _ _)) (wanted_none rfl) rfl rfl (by kernel_rfl) (fun _ _ _ h => h) ?_; clear S a; intro a S
  refine d_read (i := 5) #[true, true, true, true, true, true, false, false, false, false, false, false, false, false] S H rfl (r_load rfl List.mem_cons_self rfl (fun w hc => ld1 ag9 hc)) (wanted_none rfl) rfl rfl (by kernel_rfl) (fun _ _ _ h => h) ?_; clear S a; intro a S
  refine d_pure (i := 6) #[true, true, true, true, true, true, true, false, false, false, false, false, false, false] S rfl (p_move rfl) (wanted_none rfl) rfl rfl (by kernel_rfl) (fun _ _ _ h => h) ?_; clear S a; intro a S
  refine d_pure (i := 7) #[true, true, true, true, true, true, true, true, false, false, false, false, false, false] S rfl (p_nilCheck rfl) (wanted_none rfl) rfl rfl (by kernel_rfl) (fun _ _ _ h => h) ?_; clear S a; intro a S
  refine d_pure (i := 8) #[true, true, true, true, true, true, true, true, true, false, false, false, false, false] S rfl (p_fieldAddr rfl (fun w => fa141_2 w _ _)) (wanted_none rfl) rfl rfl (by kernel_rfl) (fun _ _ _ h => h) ?_; clear S a; intro a S
  refine d_read (i := 9) #[true, true, true, true, true, true, true, true, true, true, false, false, false, false] S H rfl (r_load rfl List.mem_cons_self rfl (fun w hc => ld1 ag36 hc)) (wanted_none rfl) rfl rfl (by kernel_rfl) (fun _ _ _ h => h) ?_; clear S a; intro a S
  have hcon := actp_ _ nm hnm A c l (C_old hC H) hlc hl hls (fun w hb => hT w (H.later hb).below)
  refine d_call (i := 10) #[true, true, true, true, true, true, true, true, true, true, true, false, false, false] S rfl rfl rfl Tryd.func57 rfl rfl (hcon) (wanted_none rfl) rfl rfl (by kernel_rfl) rfl ?_
  rintro e w ⟨A1, n1, c1, b1, b2, b3, rfl, hb⟩
  refine ⟨_, rfl, H.later hb, ?_⟩; replace H := H.later hb; clear hb hcon; clear S a; intro a S
  refine d_pure (i := 11) #[true, true, true, true, true, true, true, true, true, true, true, true, false, false] S rfl (p_nilCheck rfl) (wanted_none rfl) rfl rfl (by kernel_rfl) (fun _ _ _ h => h) ?_; clear S a; intro a S
  refine d_pure (i := 12) #[true, true, true, true, true, true, true, true, true, true, true, true, true, false] S rfl (p_fieldAddr rfl (fun w => fa141_3 w _ _)) (wanted_none rfl) rfl rfl (by kernel_rfl) (fun _ _ _ h => h) ?_; clear S a; intro a S
  refine d_stores (i := 13) (vs := [.slice A1 n1 c1, .bool b1, .bool b2, .bool b3]) #[true, true, true, true, true, true, true, true, true, true, true, true, true, true] S H rfl rfl rfl rfl sz139 .here (by simp) (fun v hv => by simp only [List.mem_cons, List.not_mem_nil, or_false] at hv; rcases hv with rfl | rfl | rfl | rfl <;> rfl) (wanted_none rfl) rfl (by kernel_rfl) rfl ?_; clear S a H; intro w a H S
  refine d_done (by kernel_rfl) ?_
  refine e_then ?_
  refine wp_seq ?_
  refine c_region ?_
  refine l_pure S (p_move rfl) rfl rfl rfl ?_; clear S a; intro a S
  refine l_pure S (p_assign rfl) rfl rfl rfl ?_; clear S a; intro a S
  refine l_nil ?_
  refine e_then ?_
  refine wp_ret ?_
  exact r_ret1 S rfl rfl ⟨g2, _, _, _, _, _, _, rfl, H.sub (.cons_cons _ (by simp))⟩
end pr
end Go.Proofs.YtnmelglnkefjfaaDoor.ct
