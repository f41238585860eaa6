/- Marshalers. -/
import Derived.Test.YtnmelglnkefjfaaGreatDoorWb1
import Derived.Test.YtnmelglnkefjfaaGreatDoorWc1
namespace Go.Proofs.YtnmelglnkefjfaaGreatDoor.wr
open Go.RowKit Go.Proofs.HHW Go.Proofs.YtnmelglnkefjfaaGreatDoorW.PrintWords
set_option linter.unusedVariables false
set_option linter.unusedSimpArgs false
namespace ms
theorem ag3 : aggB Tryz.prog 3 = some false := by kernel_rfl
theorem ag39 : aggB Tryz.prog 39 = some false := by kernel_rfl
theorem ag4 : aggB Tryz.prog 4 = some false := by kernel_rfl
theorem ag80 : aggB Tryz.prog 80 = some false := by kernel_rfl
theorem ag81 : aggB Tryz.prog 81 = some false := by kernel_rfl
theorem ag9 : aggB Tryz.prog 9 = some false := by kernel_rfl
theorem fa110_0 (w : World) (g o : Nat) : (Instr.fieldAt 110 (.pointer (some ⟨g, o, none⟩)) 0).run Tryz.prog w = .ok (.pointer (some ⟨g, o + 0, none⟩)) w := by kernel_rfl
theorem fa110_1 (w : World) (g o : Nat) : (Instr.fieldAt 110 (.pointer (some ⟨g, o, none⟩)) 1).run Tryz.prog w = .ok (.pointer (some ⟨g, o + 1, none⟩)) w := by kernel_rfl
theorem fa112_0 (w : World) (g o : Nat) : (Instr.fieldAt 112 (.pointer (some ⟨g, o, none⟩)) 0).run Tryz.prog w = .ok (.pointer (some ⟨g, o + 0, none⟩)) w := by kernel_rfl
theorem fa112_1 (w : World) (g o : Nat) : (Instr.fieldAt 112 (.pointer (some ⟨g, o, none⟩)) 1).run Tryz.prog w = .ok (.pointer (some ⟨g, o + 1, none⟩)) w := by kernel_rfl
theorem fa136_0 (w : World) (g o : Nat) : (Instr.fieldAt 136 (.pointer (some ⟨g, o, none⟩)) 0).run Tryz.prog w = .ok (.pointer (some ⟨g, o + 0, none⟩)) w := by kernel_rfl
theorem fa136_1 (w : World) (g o : Nat) : (Instr.fieldAt 136 (.pointer (some ⟨g, o, none⟩)) 1).run Tryz.prog w = .ok (.pointer (some ⟨g, o + 1, none⟩)) w := by kernel_rfl
theorem fa96_0 (w : World) (g o : Nat) : (Instr.fieldAt 96 (.pointer (some ⟨g, o, none⟩)) 0).run Tryz.prog w = .ok (.pointer (some ⟨g, o + 0, none⟩)) w := by kernel_rfl
theorem fa96_1 (w : World) (g o : Nat) : (Instr.fieldAt 96 (.pointer (some ⟨g, o, none⟩)) 1).run Tryz.prog w = .ok (.pointer (some ⟨g, o + 1, none⟩)) w := by kernel_rfl
theorem sz39 : szB Tryz.prog 39 = some 1 := by kernel_rfl
theorem sz5 : szB Tryz.prog 5 = some 1 := by kernel_rfl
theorem zv5 : zvB Tryz.prog 5 = some (.int .u8 0) := by kernel_rfl
theorem in5 : (Tryz.prog.info? 5).map (fun i => (i.zero, i.size, i.bytes)) = some (some (.int .u8 0), 1, 1) := by kernel_rfl
theorem bld110_0 (x0_0A : Option Addr) (x0_0n x0_0c : Nat) : Tryz.prog.built 110 [(0, (.slice x0_0A x0_0n x0_0c))] = some #[.slice x0_0A x0_0n x0_0c, .bool false] := by kernel_rfl
theorem bld112_0 (x0_0 : ByteArray) : Tryz.prog.built 112 [(0, (.string x0_0))] = some #[.string x0_0, .bool false] := by kernel_rfl
theorem mi45 : Tryz.prog.underlying 45 = some (.interface (Tryz.prog.methodsAt 45)) := by kernel_rfl
theorem meW (w : World) (ad : Addr) : (method (Tryz.prog.types.size + Made.depth) 47 (.pointer (some ad)) "Write").run Tryz.prog w = .ok (148, .pointer (some ad)) w := by kernel_rfl
/-- What a marshaler works on: the options, the pool of rows, the buffer that is written to. -/
def Env (go bp b : Nat) (l : List Int) (ls : dc.Bk) : Prop := ∃ (br : Nat) (po bs : dc.Bk), wq.Pool 143 147 39 5 bp po ∧ bb.BufZ b l bs ∧ ls = (go, .cells #[.func (.func 37) #[.pointer (some ⟨bp, 0, none⟩)] #[], .func (.func 38) #[.pointer (some ⟨bp, 0, none⟩)] #[], .func (.func 39) #[.pointer (some ⟨br, 0, none⟩)] #[], .func (.func 40) #[] #[], .func (.func 42) #[] #[], .bool false, .bool false] 96 (0, 0)) :: (po ++ bs)

theorem delim_ (wb w0 : World) (B : Nat) (L0 : dc.Bk) (H : HH B wb w0 L0) : Calls Tryz.prog 82 #[] w0 fun e w' => ∃ gd, e = .returned (.slice (some ⟨gd, 0, none⟩) 2 2) ∧ HH B wb w' ((gd, .cells #[.int .u8 13, .int .u8 10] 5 (0, 0)) :: L0) := by
  refine c_enter (args := []) (k := 2) Tryz.func82 rfl rfl rfl (fun a S => ?_)
  refine wp_seq ?_
  refine c_region ?_
  refine l_pure S (p_assign rfl) rfl rfl rfl ?_; clear S a; intro a S
  refine l_nil ?_
  refine e_then ?_
  refine wp_seq ?_
  refine c_region ?_
  refine l_lit [(.const (.int .u8 13)), (.const (.int .u8 10))] S H rfl rfl Tryz.underlying39 sz5 zv5 rfl rfl (by simp [Value.cells]) rfl rfl rfl ?_; clear S a H; intro g1 w a H S
  refine l_pure S (p_assign rfl) rfl rfl rfl ?_; clear S a; intro a S
  refine l_nil ?_
  refine e_then ?_
  refine wp_ret ?_
  exact r_ret1 S rfl rfl ⟨_, rfl, H⟩
theorem eval_ (wb w0 : World) (B : Nat) (L0 : dc.Bk) (H : HH B wb w0 L0) : Calls Tryz.prog 53 #[] w0 fun e w' => ∃ gd, e = .returned (.slice (some ⟨gd, 0, none⟩) 4 4) ∧ HH B wb w' ((gd, .cells #[.int .u8 69, .int .u8 86, .int .u8 65, .int .u8 76] 5 (4, 5)) :: L0) := by
  refine c_enter (args := []) (k := 3) Tryz.func53 rfl rfl rfl (fun a S => ?_)
  refine wp_seq ?_
  refine c_region ?_
  refine l_pure S (p_assign rfl) rfl rfl rfl ?_; clear S a; intro a S
  refine l_nil ?_
  refine e_then ?_
  refine wp_seq ?_
  refine c_region ?_
  refine l_lit [(.const (.int .u8 69)), (.const (.int .u8 86)), (.const (.int .u8 65)), (.const (.int .u8 76))] S H rfl rfl Tryz.underlying39 sz5 zv5 rfl rfl (by simp [Value.cells]) rfl rfl rfl ?_; clear S a H; intro g1 w a H S
  refine l_mark S H rfl rfl Tryz.underlying39 Tryz.underlying5 .here rfl rfl rfl ?_; clear S a H; intro w a H S
  refine l_pure S (p_assign rfl) rfl rfl rfl ?_; clear S a; intro a S
  refine l_nil ?_
  refine e_then ?_
  refine wp_ret ?_
  exact r_ret1 S rfl rfl ⟨_, rfl, H⟩
theorem evalsha_ (wb w0 : World) (B : Nat) (L0 : dc.Bk) (H : HH B wb w0 L0) : Calls Tryz.prog 55 #[] w0 fun e w' => ∃ gd, e = .returned (.slice (some ⟨gd, 0, none⟩) 7 7) ∧ HH B wb w' ((gd, .cells #[.int .u8 69, .int .u8 86, .int .u8 65, .int .u8 76, .int .u8 83, .int .u8 72, .int .u8 65] 5 (7, 8)) :: L0) := by
  refine c_enter (args := []) (k := 3) Tryz.func55 rfl rfl rfl (fun a S => ?_)
  refine wp_seq ?_
  refine c_region ?_
  refine l_pure S (p_assign rfl) rfl rfl rfl ?_; clear S a; intro a S
  refine l_nil ?_
  refine e_then ?_
  refine wp_seq ?_
  refine c_region ?_
  refine l_lit [(.const (.int .u8 69)), (.const (.int .u8 86)), (.const (.int .u8 65)), (.const (.int .u8 76)), (.const (.int .u8 83)), (.const (.int .u8 72)), (.const (.int .u8 65))] S H rfl rfl Tryz.underlying39 sz5 zv5 rfl rfl (by simp [Value.cells]) rfl rfl rfl ?_; clear S a H; intro g1 w a H S
  refine l_mark S H rfl rfl Tryz.underlying39 Tryz.underlying5 .here rfl rfl rfl ?_; clear S a H; intro w a H S
  refine l_pure S (p_assign rfl) rfl rfl rfl ?_; clear S a; intro a S
  refine l_nil ?_
  refine e_then ?_
  refine wp_ret ?_
  exact r_ret1 S rfl rfl ⟨_, rfl, H⟩
set_option maxHeartbeats 1000000 in
theorem agg_ (wb w0 : World) (B : Nat) (L0 : dc.Bk) (go bp b : Nat) (l : List Int) (ls : dc.Bk) (hE : Env go bp b l ls) (ht : Lib.TabBelow Tryz.prog B wb "internal/strconv.uint64pow10" .u64 Lib.pow10Tab) (H : HH B wb w0 (ls ++ L0)) (hl : l.length ≤ 10000000) (p : Int) (n : Nat) (hn : n ≤ 10000000) : Calls Tryz.prog 68 #[.iface 47 (.pointer (some ⟨b, 0, none⟩)), .int .u8 p, .int .i64 (n : Int), .bool false, .pointer (some ⟨go, 0, none⟩)] w0 fun e w' => e = .returned .nilIface ∧ ∃ ls', Env go bp b (l ++ (p :: (wq.dec n ++ [13, 10]))) ls' ∧ HH B wb w' (ls' ++ L0) := by
  obtain ⟨br, po, bs, hp, hz, rfl⟩ := hE
  replace H : HH B wb w0 ((go, .cells #[.func (.func 37) #[.pointer (some ⟨bp, 0, none⟩)] #[], .func (.func 38) #[.pointer (some ⟨bp, 0, none⟩)] #[], .func (.func 39) #[.pointer (some ⟨br, 0, none⟩)] #[], .func (.func 40) #[] #[], .func (.func 42) #[] #[], .bool false, .bool false] 96 (0, 0)) :: (po ++ (bs ++ L0))) := HH.app H (by simp)
  refine c_enter_d (args := [.iface 47 (.pointer (some ⟨b, 0, none⟩)), .int .u8 p, .int .i64 (n : Int), .bool false, .pointer (some ⟨go, 0, none⟩)]) (k := 60) Tryz.func68 rfl rfl rfl (fun a S => ?_)
  refine wp_seq ?_
  refine c_region ?_
  refine l_pure S (p_assign rfl) rfl rfl rfl ?_; clear S a; intro a S
  refine l_nil ?_
  refine e_then ?_
  refine wp_seq ?_
  refine c_region ?_
  refine l_pure S (p_move rfl) rfl rfl rfl ?_; clear S a; intro a S
  refine l_pure S (p_nilCheck rfl) rfl rfl rfl ?_; clear S a; intro a S
  refine l_pure S (p_fieldAddr rfl (fun w => fa96_0 w _ _)) rfl rfl rfl ?_; clear S a; intro a S
  refine l_read S H (r_load rfl List.mem_cons_self rfl (fun w hc => ld1 ag80 hc)) rfl rfl rfl ?_; clear S a; intro a S
  replace H : HH B wb _ ((go, .cells #[.func (.func 37) #[.pointer (some ⟨bp, 0, none⟩)] #[], .func (.func 38) #[.pointer (some ⟨bp, 0, none⟩)] #[], .func (.func 39) #[.pointer (some ⟨br, 0, none⟩)] #[], .func (.func 40) #[] #[], .func (.func 42) #[] #[], .bool false, .bool false] 96 (0, 0)) :: (po ++ (bs ++ L0))) := H
  replace H : HH B wb _ (po ++ ((go, .cells #[.func (.func 37) #[.pointer (some ⟨bp, 0, none⟩)] #[], .func (.func 38) #[.pointer (some ⟨bp, 0, none⟩)] #[], .func (.func 39) #[.pointer (some ⟨br, 0, none⟩)] #[], .func (.func 40) #[] #[], .func (.func 42) #[] #[], .bool false, .bool false] 96 (0, 0)) :: (bs ++ L0))) := HH.app (HH.front (L1 := [(go, .cells #[.func (.func 37) #[.pointer (some ⟨bp, 0, none⟩)] #[], .func (.func 38) #[.pointer (some ⟨bp, 0, none⟩)] #[], .func (.func 39) #[.pointer (some ⟨br, 0, none⟩)] #[], .func (.func 40) #[] #[], .func (.func 42) #[] #[], .bool false, .bool false] 96 (0, 0))]) (S := po) (L2 := (bs ++ L0)) (HH.app H (by simp))) (by simp)
  have hcon := pl.get_ wb _ B ((go, .cells #[.func (.func 37) #[.pointer (some ⟨bp, 0, none⟩)] #[], .func (.func 38) #[.pointer (some ⟨bp, 0, none⟩)] #[], .func (.func 39) #[.pointer (some ⟨br, 0, none⟩)] #[], .func (.func 40) #[] #[], .func (.func 42) #[] #[], .bool false, .bool false] 96 (0, 0)) :: (bs ++ L0)) bp po hp H
  refine l_callv (us := [.pointer (some ⟨bp, 0, none⟩)]) (cs := []) S rfl rfl rfl Tryz.func37 rfl rfl hcon rfl rfl rfl ?_
  rintro e w ⟨po', hp', gb, A0, c0, ow0, rfl, hown0, hH⟩
  refine ⟨_, rfl, ?_⟩; clear S a; intro a S; clear H hcon; have H := hH; clear hH
  refine l_pure S (p_assign rfl) rfl rfl rfl ?_; clear S a; intro a S
  refine l_nil ?_
  refine e_then ?_
  refine wp_seq ?_
  refine c_region ?_
  refine l_pure S (p_move rfl) rfl rfl rfl ?_; clear S a; intro a S
  refine l_pure S (p_nilCheck rfl) rfl rfl rfl ?_; clear S a; intro a S
  refine l_pure S (p_fieldAddr rfl (fun w => fa96_1 w _ _)) rfl rfl rfl ?_; clear S a; intro a S
  refine l_read S H (r_load rfl (List.mem_cons_of_mem _ (List.mem_append_right _ (List.mem_append_right _ List.mem_cons_self))) rfl (fun w hc => ld1 ag81 hc)) rfl rfl rfl ?_; clear S a; intro a S
  refine l_pure S (p_move rfl) rfl rfl rfl ?_; clear S a; intro a S
  refine l_defer (xs := [.tmp 23]) (us := [.pointer (some ⟨bp, 0, none⟩)]) (cs := []) (vs := [.pointer (some ⟨gb, 0, none⟩)]) S rfl rfl rfl rfl rfl ?_; clear S a; intro a S
  refine l_nil ?_
  refine e_then ?_
  refine wp_seq ?_
  refine c_region ?_
  refine l_pure S (p_move rfl) rfl rfl rfl ?_; clear S a; intro a S
  refine l_pure S (p_move rfl) rfl rfl rfl ?_; clear S a; intro a S
  refine l_pure S (p_nilCheck rfl) rfl rfl rfl ?_; clear S a; intro a S
  refine l_read S H (r_load rfl List.mem_cons_self rfl (fun w hc => ld1 ag39 hc)) rfl rfl rfl ?_; clear S a; intro a S
  refine l_pure S (p_move rfl) rfl rfl rfl ?_; clear S a; intro a S
  refine l_lit [(.tmp 28)] S H rfl rfl Tryz.underlying39 sz5 zv5 rfl rfl (by simp [Value.cells]) rfl rfl rfl ?_; clear S a H; intro g1 w a H S
  refine l_ownB [_, _] (l := ([] : List Int)) (r := [p]) S H rfl rfl rfl hown0 (src_lit (vs := ([p]).map (Value.int .u8)) H List.mem_cons_self Tryz.underlying39 (by simp [Value.oneCell'])) Tryz.underlying39 in5 rfl (by simp only [List.length_append, List.length_cons, List.length_nil, wq.dec_len, ints_len]; have := wq.nDigits_le (u := n) (k := 18) (by omega); omega) (by decide) rfl rfl rfl ?_; clear S a H; intro An2 cn2 own2 w a hn2 H S
  replace H := H.tail
  replace H : HH B wb _ ((gb, .cells #[.slice A0 ([] : List Int).length c0] 39 (0, 0)) :: (own2 ++ (po' ++ ((go, .cells #[.func (.func 37) #[.pointer (some ⟨bp, 0, none⟩)] #[], .func (.func 38) #[.pointer (some ⟨bp, 0, none⟩)] #[], .func (.func 39) #[.pointer (some ⟨br, 0, none⟩)] #[], .func (.func 40) #[] #[], .func (.func 42) #[] #[], .bool false, .bool false] 96 (0, 0)) :: (bs ++ L0))))) := H
  refine l_pure S (p_nilCheck rfl) rfl rfl rfl ?_; clear S a; intro a S
  refine l_store S H rfl rfl rfl .here (by first | decide | simp [Value.cells]) (fun w u hc hz => st1 sz39 rfl hc hz) rfl rfl ?_; clear S a H; intro w a H S
  refine l_nil ?_
  refine e_then ?_
  refine wp_seq ?_
  refine wp_seq ?_
  refine c_region ?_
  refine l_pure S (p_move rfl) rfl rfl rfl ?_; clear S a; intro a S
  refine l_nil ?_
  refine e_then ?_
  refine c_cond (b := false) S rfl (fun h => by cases h) (fun _ => ?_)
  refine c_region ?_
  refine l_pure S (p_move rfl) rfl rfl rfl ?_; clear S a; intro a S
  refine l_pure S (p_move rfl) rfl rfl rfl ?_; clear S a; intro a S
  refine l_pure S (p_nilCheck rfl) rfl rfl rfl ?_; clear S a; intro a S
  refine l_read S H (r_load rfl List.mem_cons_self rfl (fun w hc => ld1 ag39 hc)) rfl rfl rfl ?_; clear S a; intro a S
  refine l_pure S (p_move rfl) rfl rfl rfl ?_; clear S a; intro a S
  have hcon := nm.appI_ wb _ B ((gb, .cells #[.slice An2 (([] : List Int) ++ [p]).length cn2] 39 (0, 0)) :: (po' ++ ((go, .cells #[.func (.func 37) #[.pointer (some ⟨bp, 0, none⟩)] #[], .func (.func 38) #[.pointer (some ⟨bp, 0, none⟩)] #[], .func (.func 39) #[.pointer (some ⟨br, 0, none⟩)] #[], .func (.func 40) #[] #[], .func (.func 42) #[] #[], .bool false, .bool false] 96 (0, 0)) :: (bs ++ L0)))) ht An2 cn2 n (([] : List Int) ++ [p]) own2 hn2 H.mid (by have := wq.nDigits_le (u := n) (k := 18) (by omega); omega) (by simp only [List.length_append, List.length_cons, List.length_nil, wq.dec_len, ints_len]; have := wq.nDigits_le (u := n) (k := 18) (by omega); omega)
  refine l_call S rfl rfl Tryz.func81 rfl rfl hcon rfl rfl rfl ?_
  rintro e w ⟨An5, cn5, own5, rfl, hn5, hH⟩
  refine ⟨_, rfl, ?_⟩; clear S a; intro a S; clear H hcon; have H := hH.unmid; clear hH
  refine l_pure S (p_nilCheck rfl) rfl rfl rfl ?_; clear S a; intro a S
  refine l_store S H rfl rfl rfl .here (by first | decide | simp [Value.cells]) (fun w u hc hz => st1 sz39 rfl hc hz) rfl rfl ?_; clear S a H; intro w a H S
  refine l_nil ?_
  refine e_then ?_
  refine wp_seq ?_
  refine d_start (id := 7) [5, 7] 8 #[false, false, false, false, false, false, false, false] H rfl rfl rfl (fun w H => ?_)
  refine d_pure (i := 0) #[true, false, false, false, false, false, false, false] S rfl (p_move rfl) (wanted_none rfl) rfl rfl (by kernel_rfl) (hq_d (fun t => by simp [results, Tryz.results68, Array.getElem?_setIfInBounds])) ?_; clear S a; intro a S
  refine d_pure (i := 1) #[true, true, false, false, false, false, false, false] S rfl (p_move rfl) (wanted_none rfl) rfl rfl (by kernel_rfl) (hq_d (fun t => by simp [results, Tryz.results68, Array.getElem?_setIfInBounds])) ?_; clear S a; intro a S
  refine d_pure (i := 2) #[true, true, true, false, false, false, false, false] S rfl (p_nilCheck rfl) (wanted_none rfl) rfl rfl (by kernel_rfl) (hq_d (fun t => by simp [results, Tryz.results68, Array.getElem?_setIfInBounds])) ?_; clear S a; intro a S
  refine d_read (i := 3) #[true, true, true, true, false, false, false, false] S H rfl (r_load rfl List.mem_cons_self rfl (fun w hc => ld1 ag39 hc)) (wanted_none rfl) rfl rfl (by kernel_rfl) (hq_d (fun t => by simp [results, Tryz.results68, Array.getElem?_setIfInBounds])) ?_; clear S a; intro a S
  have hcon := delim_ wb _ B _ H
  refine d_call (i := 4) #[true, true, true, true, true, false, false, false] S rfl rfl rfl Tryz.func82 rfl rfl hcon (wanted_none rfl) rfl rfl (by kernel_rfl) rfl ?_
  rintro e w ⟨gd, rfl, hH⟩; refine ⟨_, rfl, hH.tail, ?_⟩; clear hcon H; have H := hH; clear hH; clear S a; intro a S
  refine d_ownB (i := 5) [_, _] (xs := ((([] : List Int) ++ [p]) ++ wq.dec n)) (r := [13, 10]) #[true, true, true, true, true, true, false, false] S H rfl rfl rfl rfl hn5 (src_lit (vs := ([13, 10]).map (Value.int .u8)) H List.mem_cons_self Tryz.underlying39 (by simp [Value.oneCell'])) Tryz.underlying39 in5 rfl (by simp only [List.length_append, List.length_cons, List.length_nil, wq.dec_len, ints_len]; have := wq.nDigits_le (u := n) (k := 18) (by omega); omega) (by decide) (wanted_none rfl) rfl rfl (by kernel_rfl) rfl ?_; clear S a H; intro An6 cn6 own6 w a hn6 H S
  replace H := H.tail
  replace H : HH B wb _ ((gb, .cells #[.slice An5 ((([] : List Int) ++ [p]) ++ wq.dec n).length cn5] 39 (0, 0)) :: (own6 ++ (po' ++ ((go, .cells #[.func (.func 37) #[.pointer (some ⟨bp, 0, none⟩)] #[], .func (.func 38) #[.pointer (some ⟨bp, 0, none⟩)] #[], .func (.func 39) #[.pointer (some ⟨br, 0, none⟩)] #[], .func (.func 40) #[] #[], .func (.func 42) #[] #[], .bool false, .bool false] 96 (0, 0)) :: (bs ++ L0))))) := H
  refine d_pure (i := 6) #[true, true, true, true, true, true, true, false] S rfl (p_nilCheck rfl) (wanted_none rfl) rfl rfl (by kernel_rfl) (hq_d (fun t => by simp [results, Tryz.results68, Array.getElem?_setIfInBounds])) ?_; clear S a; intro a S
  refine d_store (i := 7) #[true, true, true, true, true, true, true, true] S H rfl rfl rfl rfl .here (by first | decide | simp [Value.cells]) (fun w u hc hz => st1 sz39 rfl hc hz) (wanted_none rfl) rfl (by kernel_rfl) rfl ?_; clear S a H; intro w a H S
  refine d_done (by kernel_rfl) ?_
  refine e_then ?_
  refine wp_seq ?_
  refine d_start (id := 8) [6] 12 #[false, false, false, false, false, false, false, false, false, false, false, false] H rfl rfl rfl (fun w H => ?_)
  refine d_pure (i := 0) #[true, false, false, false, false, false, false, false, false, false, false, false] S rfl (p_move rfl) (wanted_none rfl) rfl rfl (by kernel_rfl) (hq_d (fun t => by simp [results, Tryz.results68, Array.getElem?_setIfInBounds])) ?_; clear S a; intro a S
  refine d_pure (i := 1) #[true, true, false, false, false, false, false, false, false, false, false, false] S rfl (p_move rfl) (wanted_none rfl) rfl rfl (by kernel_rfl) (hq_d (fun t => by simp [results, Tryz.results68, Array.getElem?_setIfInBounds])) ?_; clear S a; intro a S
  refine d_pure (i := 2) #[true, true, true, false, false, false, false, false, false, false, false, false] S rfl (p_nilCheck rfl) (wanted_none rfl) rfl rfl (by kernel_rfl) (hq_d (fun t => by simp [results, Tryz.results68, Array.getElem?_setIfInBounds])) ?_; clear S a; intro a S
  refine d_read (i := 3) #[true, true, true, true, false, false, false, false, false, false, false, false] S H rfl (r_load rfl List.mem_cons_self rfl (fun w hc => ld1 ag39 hc)) (wanted_none rfl) rfl rfl (by kernel_rfl) (hq_d (fun t => by simp [results, Tryz.results68, Array.getElem?_setIfInBounds])) ?_; clear S a; intro a S
  refine d_pure (i := 4) #[true, true, true, true, true, false, false, false, false, false, false, false] S rfl (p_nilCheckI rfl) (wanted_none rfl) rfl rfl (by kernel_rfl) (hq_d (fun t => by simp [results, Tryz.results68, Array.getElem?_setIfInBounds])) ?_; clear S a; intro a S
  refine d_pure (i := 5) #[true, true, true, true, true, true, false, false, false, false, false, false] S rfl (p_move rfl) (wanted_none rfl) rfl rfl (by kernel_rfl) (hq_d (fun t => by simp [results, Tryz.results68, Array.getElem?_setIfInBounds])) ?_; clear S a; intro a S
  obtain ⟨gr, cr, fr, rfl, rfl, hlc, hcr, hth, hrow⟩ := rp.own_open hn6 (by simp only [List.length_append, List.length_cons, List.length_nil]; omega)
  replace H : HH B wb _ ((gb, .cells #[.slice (some ⟨gr, 0, none⟩) (((([] : List Int) ++ [p]) ++ wq.dec n) ++ [13, 10]).length cn6] 39 (0, 0)) :: ((gr, .cells cr 5 fr) :: (po' ++ ((go, .cells #[.func (.func 37) #[.pointer (some ⟨bp, 0, none⟩)] #[], .func (.func 38) #[.pointer (some ⟨bp, 0, none⟩)] #[], .func (.func 39) #[.pointer (some ⟨br, 0, none⟩)] #[], .func (.func 40) #[] #[], .func (.func 42) #[] #[], .bool false, .bool false] 96 (0, 0)) :: (bs ++ L0))))) := H
  have H2 := HH.front (L1 := ((gb, .cells #[.slice (some ⟨gr, 0, none⟩) (((([] : List Int) ++ [p]) ++ wq.dec n) ++ [13, 10]).length cn6] 39 (0, 0)) :: ((gr, .cells cr 5 fr) :: (po' ++ [(go, .cells #[.func (.func 37) #[.pointer (some ⟨bp, 0, none⟩)] #[], .func (.func 38) #[.pointer (some ⟨bp, 0, none⟩)] #[], .func (.func 39) #[.pointer (some ⟨br, 0, none⟩)] #[], .func (.func 40) #[] #[], .func (.func 42) #[] #[], .bool false, .bool false] 96 (0, 0))])))) (S := bs) (L2 := L0) (HH.app H (by simp))
  have hcon := bb.write_ wb _ B (((gb, .cells #[.slice (some ⟨gr, 0, none⟩) (((([] : List Int) ++ [p]) ++ wq.dec n) ++ [13, 10]).length cn6] 39 (0, 0)) :: ((gr, .cells cr 5 fr) :: (po' ++ [(go, .cells #[.func (.func 37) #[.pointer (some ⟨bp, 0, none⟩)] #[], .func (.func 38) #[.pointer (some ⟨bp, 0, none⟩)] #[], .func (.func 39) #[.pointer (some ⟨br, 0, none⟩)] #[], .func (.func 40) #[] #[], .func (.func 42) #[] #[], .bool false, .bool false] 96 (0, 0))]))) ++ L0) b l bs hz gr 0 cn6 cr fr (((([] : List Int) ++ [p]) ++ wq.dec n) ++ [13, 10]) (by simp) hrow (by simp only [List.length_append, List.length_cons, List.length_nil]; omega) H2 (by simp only [List.length_append, List.length_cons, List.length_nil, wq.dec_len, ints_len]; have := wq.nDigits_le (u := n) (k := 18) (by omega); omega)
  refine d_invoke_last (i := 6) #[true, true, true, true, true, true, true, false, false, false, false, false] S rfl rfl rfl rfl (meW _ _) Tryz.func148 rfl rfl hcon (wanted_none rfl) rfl rfl (by kernel_rfl) rfl ?_
  rintro e w ⟨rfl, bs2, hz2, hH⟩
  refine ⟨_, rfl, ?_⟩; clear S a; intro a S; clear H H2 hcon
  have H : HH B wb w ((gb, .cells #[.slice (some ⟨gr, 0, none⟩) (((([] : List Int) ++ [p]) ++ wq.dec n) ++ [13, 10]).length cn6] 39 (0, 0)) :: ((gr, .cells cr 5 fr) :: (po' ++ ((go, .cells #[.func (.func 37) #[.pointer (some ⟨bp, 0, none⟩)] #[], .func (.func 38) #[.pointer (some ⟨bp, 0, none⟩)] #[], .func (.func 39) #[.pointer (some ⟨br, 0, none⟩)] #[], .func (.func 40) #[] #[], .func (.func 42) #[] #[], .bool false, .bool false] 96 (0, 0)) :: (bs2 ++ L0))))) := HH.app (HH.front (L1 := bs2) (S := ((gb, .cells #[.slice (some ⟨gr, 0, none⟩) (((([] : List Int) ++ [p]) ++ wq.dec n) ++ [13, 10]).length cn6] 39 (0, 0)) :: ((gr, .cells cr 5 fr) :: (po' ++ [(go, .cells #[.func (.func 37) #[.pointer (some ⟨bp, 0, none⟩)] #[], .func (.func 38) #[.pointer (some ⟨bp, 0, none⟩)] #[], .func (.func 39) #[.pointer (some ⟨br, 0, none⟩)] #[], .func (.func 40) #[] #[], .func (.func 42) #[] #[], .bool false, .bool false] 96 (0, 0))])))) (L2 := L0) hH) (by simp)
  clear hH
  refine d_pure (i := 7) #[true, true, true, true, true, true, true, true, false, false, false, false] S rfl (p_move rfl) (wanted_none rfl) rfl rfl (by kernel_rfl) (hq_d (fun t => by simp [results, Tryz.results68, Array.getElem?_setIfInBounds])) ?_; clear S a; intro a S
  refine d_pure (i := 8) #[true, true, true, true, true, true, true, true, true, false, false, false] S rfl (p_extract rfl rfl) (wanted_none rfl) rfl rfl (by kernel_rfl) (hq_d (fun t => by simp [results, Tryz.results68, Array.getElem?_setIfInBounds])) ?_; clear S a; intro a S
  refine d_pure (i := 9) #[true, true, true, true, true, true, true, true, true, true, false, false] S rfl (p_extract rfl rfl) (wanted_none rfl) rfl rfl (by kernel_rfl) (hq_d (fun t => by simp [results, Tryz.results68, Array.getElem?_setIfInBounds])) ?_; clear S a; intro a S
  refine d_pure (i := 10) #[true, true, true, true, true, true, true, true, true, true, true, false] S rfl (p_assign rfl) (wanted_none rfl) rfl rfl (by kernel_rfl) (hq_d (fun t => by simp [results, Tryz.results68, Array.getElem?_setIfInBounds])) ?_; clear S a; intro a S
  refine d_pure (i := 11) #[true, true, true, true, true, true, true, true, true, true, true, true] S rfl (p_assign rfl) (wanted_none rfl) rfl rfl (by kernel_rfl) (hq_d (fun t => by simp [results, Tryz.results68, Array.getElem?_setIfInBounds])) ?_; clear S a; intro a S
  refine d_done (by kernel_rfl) ?_
  refine e_then ?_
  refine wp_seq ?_
  refine c_region ?_
  refine l_pure S (p_move rfl) rfl rfl rfl ?_; clear S a; intro a S
  refine l_pure S (p_assign rfl) rfl rfl rfl ?_; clear S a; intro a S
  refine l_nil ?_
  refine e_then ?_
  refine wp_ret ?_
  refine r_doorA S (pl.put_ wb _ B ((go, .cells #[.func (.func 37) #[.pointer (some ⟨bp, 0, none⟩)] #[], .func (.func 38) #[.pointer (some ⟨bp, 0, none⟩)] #[], .func (.func 39) #[.pointer (some ⟨br, 0, none⟩)] #[], .func (.func 40) #[] #[], .func (.func 42) #[] #[], .bool false, .bool false] 96 (0, 0)) :: (bs2 ++ L0)) bp gb cn6 (some ⟨gr, 0, none⟩) (((([] : List Int) ++ [p]) ++ wq.dec n) ++ [13, 10]) po' [(gr, .cells cr 5 fr)] hp' hn6 H) (invokesA (vs := [.pointer (some ⟨bp, 0, none⟩), .pointer (some ⟨gb, 0, none⟩)]) (caps := []) Tryz.func38 rfl rfl) (fun w' _ => res_t1 rfl rfl) ?_
  rintro w' ⟨po2, hp2, hH⟩
  have H3 := HH.front (L1 := po2) (S := [(go, .cells #[.func (.func 37) #[.pointer (some ⟨bp, 0, none⟩)] #[], .func (.func 38) #[.pointer (some ⟨bp, 0, none⟩)] #[], .func (.func 39) #[.pointer (some ⟨br, 0, none⟩)] #[], .func (.func 40) #[] #[], .func (.func 42) #[] #[], .bool false, .bool false] 96 (0, 0))]) (L2 := bs2 ++ L0) (HH.app hH (by simp))
  exact ⟨rfl, _, ⟨br, po2, bs2, hp2, by simpa using hz2, rfl⟩, HH.app (L := ((go, .cells #[.func (.func 37) #[.pointer (some ⟨bp, 0, none⟩)] #[], .func (.func 38) #[.pointer (some ⟨bp, 0, none⟩)] #[], .func (.func 39) #[.pointer (some ⟨br, 0, none⟩)] #[], .func (.func 40) #[] #[], .func (.func 42) #[] #[], .bool false, .bool false] 96 (0, 0)) :: (po2 ++ (bs2 ++ L0)))) (L' := ((go, .cells #[.func (.func 37) #[.pointer (some ⟨bp, 0, none⟩)] #[], .func (.func 38) #[.pointer (some ⟨bp, 0, none⟩)] #[], .func (.func 39) #[.pointer (some ⟨br, 0, none⟩)] #[], .func (.func 40) #[] #[], .func (.func 42) #[] #[], .bool false, .bool false] 96 (0, 0)) :: (po2 ++ bs2)) ++ L0) (HH.app (L' := ((go, .cells #[.func (.func 37) #[.pointer (some ⟨bp, 0, none⟩)] #[], .func (.func 38) #[.pointer (some ⟨bp, 0, none⟩)] #[], .func (.func 39) #[.pointer (some ⟨br, 0, none⟩)] #[], .func (.func 40) #[] #[], .func (.func 42) #[] #[], .bool false, .bool false] 96 (0, 0)) :: (po2 ++ (bs2 ++ L0)))) H3 (by simp)) (by simp)⟩
theorem arh_ (wb w0 : World) (B : Nat) (L0 : dc.Bk) (go bp b : Nat) (l : List Int) (ls : dc.Bk) (hE : Env go bp b l ls) (ht : Lib.TabBelow Tryz.prog B wb "internal/strconv.uint64pow10" .u64 Lib.pow10Tab) (H : HH B wb w0 (ls ++ L0)) (hl : l.length ≤ 10000000) (n : Nat) (hn : n ≤ 10000000) : Calls Tryz.prog 51 #[.agg #[.int .i64 (n : Int), .bool false], .iface 47 (.pointer (some ⟨b, 0, none⟩)), .pointer (some ⟨go, 0, none⟩)] w0 fun e w' => e = .returned .nilIface ∧ ∃ ls', Env go bp b (l ++ (42 :: (wq.dec n ++ [13, 10]))) ls' ∧ HH B wb w' (ls' ++ L0) := by
  obtain ⟨br, po, bs, hp, hz, rfl⟩ := hE
  replace H : HH B wb w0 ((go, .cells #[.func (.func 37) #[.pointer (some ⟨bp, 0, none⟩)] #[], .func (.func 38) #[.pointer (some ⟨bp, 0, none⟩)] #[], .func (.func 39) #[.pointer (some ⟨br, 0, none⟩)] #[], .func (.func 40) #[] #[], .func (.func 42) #[] #[], .bool false, .bool false] 96 (0, 0)) :: (po ++ (bs ++ L0))) := HH.app H (by simp)
  refine c_enter (args := [.agg #[.int .i64 (n : Int), .bool false], .iface 47 (.pointer (some ⟨b, 0, none⟩)), .pointer (some ⟨go, 0, none⟩)]) (k := 11) Tryz.func51 rfl rfl rfl (fun a S => ?_)
  refine wp_seq ?_
  refine c_region ?_
  refine l_box (cs := #[.int .i64 ((n : Nat) : Int), .bool false]) S H rfl rfl (fun w => bx) rfl rfl rfl ?_; clear S a H; intro g1 w a H S
  refine l_pure S (p_assign rfl) rfl rfl rfl ?_; clear S a; intro a S
  refine l_nil ?_
  refine e_then ?_
  refine wp_seq ?_
  refine c_region ?_
  refine l_pure S (p_move rfl) rfl rfl rfl ?_; clear S a; intro a S
  refine l_pure S (p_fieldAddr rfl (fun w => fa136_0 w _ _)) rfl rfl rfl ?_; clear S a; intro a S
  refine l_read S H (r_load rfl List.mem_cons_self rfl (fun w hc => ld1 ag3 hc)) rfl rfl rfl ?_; clear S a; intro a S
  refine l_pure S (p_fieldAddr rfl (fun w => fa136_1 w _ _)) rfl rfl rfl ?_; clear S a; intro a S
  refine l_read S H (r_load rfl List.mem_cons_self rfl (fun w hc => ld1 ag4 hc)) rfl rfl rfl ?_; clear S a; intro a S
  refine l_pure S (p_move rfl) rfl rfl rfl ?_; clear S a; intro a S
  replace H : HH B wb _ ((g1, .cells #[.int .i64 ((n : Nat) : Int), .bool false] 136 (0, 0)) :: ((go, .cells #[.func (.func 37) #[.pointer (some ⟨bp, 0, none⟩)] #[], .func (.func 38) #[.pointer (some ⟨bp, 0, none⟩)] #[], .func (.func 39) #[.pointer (some ⟨br, 0, none⟩)] #[], .func (.func 40) #[] #[], .func (.func 42) #[] #[], .bool false, .bool false] 96 (0, 0)) :: (po ++ (bs ++ L0)))) := H
  replace H : HH B wb _ ((go, .cells #[.func (.func 37) #[.pointer (some ⟨bp, 0, none⟩)] #[], .func (.func 38) #[.pointer (some ⟨bp, 0, none⟩)] #[], .func (.func 39) #[.pointer (some ⟨br, 0, none⟩)] #[], .func (.func 40) #[] #[], .func (.func 42) #[] #[], .bool false, .bool false] 96 (0, 0)) :: (po ++ (bs ++ ((g1, .cells #[.int .i64 ((n : Nat) : Int), .bool false] 136 (0, 0)) :: L0)))) := HH.app (HH.front (L1 := [(g1, .cells #[.int .i64 ((n : Nat) : Int), .bool false] 136 (0, 0))]) (S := ((go, .cells #[.func (.func 37) #[.pointer (some ⟨bp, 0, none⟩)] #[], .func (.func 38) #[.pointer (some ⟨bp, 0, none⟩)] #[], .func (.func 39) #[.pointer (some ⟨br, 0, none⟩)] #[], .func (.func 40) #[] #[], .func (.func 42) #[] #[], .bool false, .bool false] 96 (0, 0)) :: (po ++ bs))) (L2 := L0) (HH.app H (by simp))) (by simp)
  have hcon := agg_ wb _ B ((g1, .cells #[.int .i64 ((n : Nat) : Int), .bool false] 136 (0, 0)) :: L0) go bp b l _ ⟨br, po, bs, hp, hz, rfl⟩ ht (HH.app (L' := ((go, .cells #[.func (.func 37) #[.pointer (some ⟨bp, 0, none⟩)] #[], .func (.func 38) #[.pointer (some ⟨bp, 0, none⟩)] #[], .func (.func 39) #[.pointer (some ⟨br, 0, none⟩)] #[], .func (.func 40) #[] #[], .func (.func 42) #[] #[], .bool false, .bool false] 96 (0, 0)) :: (po ++ bs)) ++ ((g1, .cells #[.int .i64 ((n : Nat) : Int), .bool false] 136 (0, 0)) :: L0)) H (by simp)) hl 42 n hn
  refine l_call S rfl rfl Tryz.func68 rfl rfl (hcon) rfl rfl rfl ?_
  rintro e w ⟨rfl, ls', hE', hH⟩
  refine ⟨_, rfl, ?_⟩; clear S a; intro a S
  clear H hcon
  refine l_pure S (p_assign rfl) rfl rfl rfl ?_; clear S a; intro a S
  refine l_nil ?_
  refine e_then ?_
  refine wp_ret ?_
  exact r_ret1 S rfl rfl ⟨rfl, ls', hE', HH.tail (HH.unmid hH)⟩
set_option maxHeartbeats 1000000 in
theorem bst_ (wb w0 : World) (B : Nat) (L0 : dc.Bk) (go bp b : Nat) (l : List Int) (ls : dc.Bk) (hE : Env go bp b l ls) (ht : Lib.TabBelow Tryz.prog B wb "internal/strconv.uint64pow10" .u64 Lib.pow10Tab) (H : HH B wb w0 (ls ++ L0)) (hl : l.length ≤ 10000000) (tx : ByteArray) (hx : tx.size ≤ 10000000) : Calls Tryz.prog 70 #[.agg #[.string tx, .bool false], .iface 47 (.pointer (some ⟨b, 0, none⟩)), .pointer (some ⟨go, 0, none⟩)] w0 fun e w' => e = .returned .nilIface ∧ ∃ ls', Env go bp b (l ++ (36 :: (wq.dec tx.size ++ [13, 10] ++ (ints tx) ++ [13, 10]))) ls' ∧ HH B wb w' (ls' ++ L0) := by
  obtain ⟨br, po, bs, hp, hz, rfl⟩ := hE
  replace H : HH B wb w0 ((go, .cells #[.func (.func 37) #[.pointer (some ⟨bp, 0, none⟩)] #[], .func (.func 38) #[.pointer (some ⟨bp, 0, none⟩)] #[], .func (.func 39) #[.pointer (some ⟨br, 0, none⟩)] #[], .func (.func 40) #[] #[], .func (.func 42) #[] #[], .bool false, .bool false] 96 (0, 0)) :: (po ++ (bs ++ L0))) := HH.app H (by simp)
  refine c_enter_d (args := [.agg #[.string tx, .bool false], .iface 47 (.pointer (some ⟨b, 0, none⟩)), .pointer (some ⟨go, 0, none⟩)]) (k := 75) Tryz.func70 rfl rfl rfl (fun a S => ?_)
  refine wp_seq ?_
  refine c_region ?_
  refine l_box (cs := #[.string tx, .bool false]) S H rfl rfl (fun w => bx) rfl rfl rfl ?_; clear S a H; intro g1 w a H S
  refine l_pure S (p_assign rfl) rfl rfl rfl ?_; clear S a; intro a S
  refine l_nil ?_
  refine e_then ?_
  refine wp_seq ?_
  refine c_region ?_
  refine l_pure S (p_move rfl) rfl rfl rfl ?_; clear S a; intro a S
  refine l_pure S (p_nilCheck rfl) rfl rfl rfl ?_; clear S a; intro a S
  refine l_pure S (p_fieldAddr rfl (fun w => fa96_0 w _ _)) rfl rfl rfl ?_; clear S a; intro a S
  refine l_read S H (r_load rfl (List.mem_cons_of_mem _ List.mem_cons_self) rfl (fun w hc => ld1 ag80 hc)) rfl rfl rfl ?_; clear S a; intro a S
  replace H : HH B wb _ ((g1, .cells #[.string tx, .bool false] 112 (0, 0)) :: ((go, .cells #[.func (.func 37) #[.pointer (some ⟨bp, 0, none⟩)] #[], .func (.func 38) #[.pointer (some ⟨bp, 0, none⟩)] #[], .func (.func 39) #[.pointer (some ⟨br, 0, none⟩)] #[], .func (.func 40) #[] #[], .func (.func 42) #[] #[], .bool false, .bool false] 96 (0, 0)) :: (po ++ (bs ++ L0)))) := H
  replace H : HH B wb _ (po ++ ((g1, .cells #[.string tx, .bool false] 112 (0, 0)) :: ((go, .cells #[.func (.func 37) #[.pointer (some ⟨bp, 0, none⟩)] #[], .func (.func 38) #[.pointer (some ⟨bp, 0, none⟩)] #[], .func (.func 39) #[.pointer (some ⟨br, 0, none⟩)] #[], .func (.func 40) #[] #[], .func (.func 42) #[] #[], .bool false, .bool false] 96 (0, 0)) :: (bs ++ L0)))) := HH.app (HH.front (L1 := ((g1, .cells #[.string tx, .bool false] 112 (0, 0)) :: [(go, .cells #[.func (.func 37) #[.pointer (some ⟨bp, 0, none⟩)] #[], .func (.func 38) #[.pointer (some ⟨bp, 0, none⟩)] #[], .func (.func 39) #[.pointer (some ⟨br, 0, none⟩)] #[], .func (.func 40) #[] #[], .func (.func 42) #[] #[], .bool false, .bool false] 96 (0, 0))])) (S := po) (L2 := (bs ++ L0)) (HH.app H (by simp))) (by simp)
  have hcon := pl.get_ wb _ B ((g1, .cells #[.string tx, .bool false] 112 (0, 0)) :: ((go, .cells #[.func (.func 37) #[.pointer (some ⟨bp, 0, none⟩)] #[], .func (.func 38) #[.pointer (some ⟨bp, 0, none⟩)] #[], .func (.func 39) #[.pointer (some ⟨br, 0, none⟩)] #[], .func (.func 40) #[] #[], .func (.func 42) #[] #[], .bool false, .bool false] 96 (0, 0)) :: (bs ++ L0))) bp po hp H
  refine l_callv (us := [.pointer (some ⟨bp, 0, none⟩)]) (cs := []) S rfl rfl rfl Tryz.func37 rfl rfl hcon rfl rfl rfl ?_
  rintro e w ⟨po', hp', gb, A0, c0, ow0, rfl, hown0, hH⟩
  refine ⟨_, rfl, ?_⟩; clear S a; intro a S; clear H hcon; have H := hH; clear hH
  refine l_pure S (p_assign rfl) rfl rfl rfl ?_; clear S a; intro a S
  refine l_nil ?_
  refine e_then ?_
  refine wp_seq ?_
  refine c_region ?_
  refine l_pure S (p_move rfl) rfl rfl rfl ?_; clear S a; intro a S
  refine l_pure S (p_nilCheck rfl) rfl rfl rfl ?_; clear S a; intro a S
  refine l_pure S (p_fieldAddr rfl (fun w => fa96_1 w _ _)) rfl rfl rfl ?_; clear S a; intro a S
  refine l_read S H (r_load rfl (List.mem_cons_of_mem _ (List.mem_append_right _ (List.mem_append_right _ (List.mem_cons_of_mem _ List.mem_cons_self)))) rfl (fun w hc => ld1 ag81 hc)) rfl rfl rfl ?_; clear S a; intro a S
  refine l_pure S (p_move rfl) rfl rfl rfl ?_; clear S a; intro a S
  refine l_defer (xs := [.tmp 19]) (us := [.pointer (some ⟨bp, 0, none⟩)]) (cs := []) (vs := [.pointer (some ⟨gb, 0, none⟩)]) S rfl rfl rfl rfl rfl ?_; clear S a; intro a S
  refine l_nil ?_
  refine e_then ?_
  refine wp_seq ?_
  refine c_region ?_
  refine l_pure S (p_move rfl) rfl rfl rfl ?_; clear S a; intro a S
  refine l_pure S (p_move rfl) rfl rfl rfl ?_; clear S a; intro a S
  refine l_pure S (p_nilCheck rfl) rfl rfl rfl ?_; clear S a; intro a S
  refine l_read S H (r_load rfl List.mem_cons_self rfl (fun w hc => ld1 ag39 hc)) rfl rfl rfl ?_; clear S a; intro a S
  refine l_lit [(.const (.int .u8 36))] S H rfl rfl Tryz.underlying39 sz5 zv5 rfl rfl (by simp [Value.cells]) rfl rfl rfl ?_; clear S a H; intro g2 w a H S
  refine l_ownB [_, _] (l := ([] : List Int)) (r := [36]) S H rfl rfl rfl hown0 (src_lit (vs := ([36]).map (Value.int .u8)) H List.mem_cons_self Tryz.underlying39 (by simp [Value.oneCell'])) Tryz.underlying39 in5 rfl (by simp only [List.length_append, List.length_cons, List.length_nil, wq.dec_len, ints_len]; have := wq.nDigits_le (u := tx.size) (k := 18) (by omega); omega) (by decide) rfl rfl rfl ?_; clear S a H; intro An3 cn3 own3 w a hn3 H S
  replace H := H.tail
  replace H : HH B wb _ ((gb, .cells #[.slice A0 ([] : List Int).length c0] 39 (0, 0)) :: (own3 ++ (po' ++ ((g1, .cells #[.string tx, .bool false] 112 (0, 0)) :: ((go, .cells #[.func (.func 37) #[.pointer (some ⟨bp, 0, none⟩)] #[], .func (.func 38) #[.pointer (some ⟨bp, 0, none⟩)] #[], .func (.func 39) #[.pointer (some ⟨br, 0, none⟩)] #[], .func (.func 40) #[] #[], .func (.func 42) #[] #[], .bool false, .bool false] 96 (0, 0)) :: (bs ++ L0)))))) := H
  refine l_pure S (p_nilCheck rfl) rfl rfl rfl ?_; clear S a; intro a S
  refine l_store S H rfl rfl rfl .here (by first | decide | simp [Value.cells]) (fun w u hc hz => st1 sz39 rfl hc hz) rfl rfl ?_; clear S a H; intro w a H S
  refine l_nil ?_
  refine e_then ?_
  refine wp_seq ?_
  refine wp_seq ?_
  refine c_region ?_
  refine l_pure S (p_fieldAddr rfl (fun w => fa112_1 w _ _)) rfl rfl rfl ?_; clear S a; intro a S
  refine l_read S H (r_load rfl (List.mem_cons_of_mem _ (List.mem_append_right _ (List.mem_append_right _ List.mem_cons_self))) rfl (fun w hc => ld1 ag4 hc)) rfl rfl rfl ?_; clear S a; intro a S
  refine l_nil ?_
  refine e_then ?_
  refine c_cond (b := false) S rfl (fun h => by cases h) (fun _ => ?_)
  refine wp_seq ?_
  refine d_start (id := 6) [7, 9] 10 #[false, false, false, false, false, false, false, false, false, false] H rfl rfl rfl (fun w H => ?_)
  refine d_pure (i := 0) #[true, false, false, false, false, false, false, false, false, false] S rfl (p_move rfl) (wanted_none rfl) rfl rfl (by kernel_rfl) (hq_d (fun t => by simp [results, Tryz.results70, Array.getElem?_setIfInBounds])) ?_; clear S a; intro a S
  refine d_pure (i := 1) #[true, true, false, false, false, false, false, false, false, false] S rfl (p_move rfl) (wanted_none rfl) rfl rfl (by kernel_rfl) (hq_d (fun t => by simp [results, Tryz.results70, Array.getElem?_setIfInBounds])) ?_; clear S a; intro a S
  refine d_pure (i := 2) #[true, true, true, false, false, false, false, false, false, false] S rfl (p_nilCheck rfl) (wanted_none rfl) rfl rfl (by kernel_rfl) (hq_d (fun t => by simp [results, Tryz.results70, Array.getElem?_setIfInBounds])) ?_; clear S a; intro a S
  refine d_read (i := 3) #[true, true, true, true, false, false, false, false, false, false] S H rfl (r_load rfl List.mem_cons_self rfl (fun w hc => ld1 ag39 hc)) (wanted_none rfl) rfl rfl (by kernel_rfl) (hq_d (fun t => by simp [results, Tryz.results70, Array.getElem?_setIfInBounds])) ?_; clear S a; intro a S
  refine d_pure (i := 4) #[true, true, true, true, true, false, false, false, false, false] S rfl (p_fieldAddr rfl (fun w => fa112_0 w _ _)) (wanted_none rfl) rfl rfl (by kernel_rfl) (hq_d (fun t => by simp [results, Tryz.results70, Array.getElem?_setIfInBounds])) ?_; clear S a; intro a S
  refine d_read (i := 5) #[true, true, true, true, true, true, false, false, false, false] S H rfl (r_load rfl (List.mem_cons_of_mem _ (List.mem_append_right _ (List.mem_append_right _ List.mem_cons_self))) rfl (fun w hc => ld1 ag9 hc)) (wanted_none rfl) rfl rfl (by kernel_rfl) (hq_d (fun t => by simp [results, Tryz.results70, Array.getElem?_setIfInBounds])) ?_; clear S a; intro a S
  refine d_pure (i := 6) #[true, true, true, true, true, true, true, false, false, false] S rfl (p_lens Tryz.underlying9 rfl) (wanted_none rfl) rfl rfl (by kernel_rfl) (hq_d (fun t => by simp [results, Tryz.results70, Array.getElem?_setIfInBounds])) ?_; clear S a; intro a S
  have hcon := nm.appI_ wb _ B ((gb, .cells #[.slice An3 (([] : List Int) ++ [36]).length cn3] 39 (0, 0)) :: (po' ++ ((g1, .cells #[.string tx, .bool false] 112 (0, 0)) :: ((go, .cells #[.func (.func 37) #[.pointer (some ⟨bp, 0, none⟩)] #[], .func (.func 38) #[.pointer (some ⟨bp, 0, none⟩)] #[], .func (.func 39) #[.pointer (some ⟨br, 0, none⟩)] #[], .func (.func 40) #[] #[], .func (.func 42) #[] #[], .bool false, .bool false] 96 (0, 0)) :: (bs ++ L0))))) ht An3 cn3 tx.size (([] : List Int) ++ [36]) own3 hn3 H.mid (by have := wq.nDigits_le (u := tx.size) (k := 18) (by omega); omega) (by simp only [List.length_append, List.length_cons, List.length_nil, wq.dec_len, ints_len]; have := wq.nDigits_le (u := tx.size) (k := 18) (by omega); omega)
  refine d_call_last (i := 7) #[true, true, true, true, true, true, true, true, false, false] S rfl rfl rfl Tryz.func81 rfl rfl hcon (wanted_none rfl) rfl rfl (by kernel_rfl) rfl ?_
  rintro e w ⟨An6, cn6, own6, rfl, hn6, hH⟩
  refine ⟨_, rfl, ?_⟩; clear S a; intro a S; clear H hcon; have H := hH.unmid; clear hH
  refine d_pure (i := 8) #[true, true, true, true, true, true, true, true, true, false] S rfl (p_nilCheck rfl) (wanted_none rfl) rfl rfl (by kernel_rfl) (hq_d (fun t => by simp [results, Tryz.results70, Array.getElem?_setIfInBounds])) ?_; clear S a; intro a S
  refine d_store (i := 9) #[true, true, true, true, true, true, true, true, true, true] S H rfl rfl rfl rfl .here (by first | decide | simp [Value.cells]) (fun w u hc hz => st1 sz39 rfl hc hz) (wanted_none rfl) rfl (by kernel_rfl) rfl ?_; clear S a H; intro w a H S
  refine d_done (by kernel_rfl) ?_
  refine e_then ?_
  refine wp_seq ?_
  refine d_start (id := 7) [5, 7] 8 #[false, false, false, false, false, false, false, false] H rfl rfl rfl (fun w H => ?_)
  refine d_pure (i := 0) #[true, false, false, false, false, false, false, false] S rfl (p_move rfl) (wanted_none rfl) rfl rfl (by kernel_rfl) (hq_d (fun t => by simp [results, Tryz.results70, Array.getElem?_setIfInBounds])) ?_; clear S a; intro a S
  refine d_pure (i := 1) #[true, true, false, false, false, false, false, false] S rfl (p_move rfl) (wanted_none rfl) rfl rfl (by kernel_rfl) (hq_d (fun t => by simp [results, Tryz.results70, Array.getElem?_setIfInBounds])) ?_; clear S a; intro a S
  refine d_pure (i := 2) #[true, true, true, false, false, false, false, false] S rfl (p_nilCheck rfl) (wanted_none rfl) rfl rfl (by kernel_rfl) (hq_d (fun t => by simp [results, Tryz.results70, Array.getElem?_setIfInBounds])) ?_; clear S a; intro a S
  refine d_read (i := 3) #[true, true, true, true, false, false, false, false] S H rfl (r_load rfl List.mem_cons_self rfl (fun w hc => ld1 ag39 hc)) (wanted_none rfl) rfl rfl (by kernel_rfl) (hq_d (fun t => by simp [results, Tryz.results70, Array.getElem?_setIfInBounds])) ?_; clear S a; intro a S
  have hcon := delim_ wb _ B _ H
  refine d_call (i := 4) #[true, true, true, true, true, false, false, false] S rfl rfl rfl Tryz.func82 rfl rfl hcon (wanted_none rfl) rfl rfl (by kernel_rfl) rfl ?_
  rintro e w ⟨gd, rfl, hH⟩; refine ⟨_, rfl, hH.tail, ?_⟩; clear hcon H; have H := hH; clear hH; clear S a; intro a S
  refine d_ownB (i := 5) [_, _] (xs := ((([] : List Int) ++ [36]) ++ wq.dec tx.size)) (r := [13, 10]) #[true, true, true, true, true, true, false, false] S H rfl rfl rfl rfl hn6 (src_lit (vs := ([13, 10]).map (Value.int .u8)) H List.mem_cons_self Tryz.underlying39 (by simp [Value.oneCell'])) Tryz.underlying39 in5 rfl (by simp only [List.length_append, List.length_cons, List.length_nil, wq.dec_len, ints_len]; have := wq.nDigits_le (u := tx.size) (k := 18) (by omega); omega) (by decide) (wanted_none rfl) rfl rfl (by kernel_rfl) rfl ?_; clear S a H; intro An7 cn7 own7 w a hn7 H S
  replace H := H.tail
  replace H : HH B wb _ ((gb, .cells #[.slice An6 ((([] : List Int) ++ [36]) ++ wq.dec tx.size).length cn6] 39 (0, 0)) :: (own7 ++ (po' ++ ((g1, .cells #[.string tx, .bool false] 112 (0, 0)) :: ((go, .cells #[.func (.func 37) #[.pointer (some ⟨bp, 0, none⟩)] #[], .func (.func 38) #[.pointer (some ⟨bp, 0, none⟩)] #[], .func (.func 39) #[.pointer (some ⟨br, 0, none⟩)] #[], .func (.func 40) #[] #[], .func (.func 42) #[] #[], .bool false, .bool false] 96 (0, 0)) :: (bs ++ L0)))))) := H
  refine d_pure (i := 6) #[true, true, true, true, true, true, true, false] S rfl (p_nilCheck rfl) (wanted_none rfl) rfl rfl (by kernel_rfl) (hq_d (fun t => by simp [results, Tryz.results70, Array.getElem?_setIfInBounds])) ?_; clear S a; intro a S
  refine d_store (i := 7) #[true, true, true, true, true, true, true, true] S H rfl rfl rfl rfl .here (by first | decide | simp [Value.cells]) (fun w u hc hz => st1 sz39 rfl hc hz) (wanted_none rfl) rfl (by kernel_rfl) rfl ?_; clear S a H; intro w a H S
  refine d_done (by kernel_rfl) ?_
  refine e_then ?_
  refine d_start (id := 8) [6, 8] 9 #[false, false, false, false, false, false, false, false, false] H rfl rfl rfl (fun w H => ?_)
  refine d_pure (i := 0) #[true, false, false, false, false, false, false, false, false] S rfl (p_move rfl) (wanted_none rfl) rfl rfl (by kernel_rfl) (hq_d (fun t => by simp [results, Tryz.results70, Array.getElem?_setIfInBounds])) ?_; clear S a; intro a S
  refine d_pure (i := 1) #[true, true, false, false, false, false, false, false, false] S rfl (p_move rfl) (wanted_none rfl) rfl rfl (by kernel_rfl) (hq_d (fun t => by simp [results, Tryz.results70, Array.getElem?_setIfInBounds])) ?_; clear S a; intro a S
  refine d_pure (i := 2) #[true, true, true, false, false, false, false, false, false] S rfl (p_nilCheck rfl) (wanted_none rfl) rfl rfl (by kernel_rfl) (hq_d (fun t => by simp [results, Tryz.results70, Array.getElem?_setIfInBounds])) ?_; clear S a; intro a S
  refine d_read (i := 3) #[true, true, true, true, false, false, false, false, false] S H rfl (r_load rfl List.mem_cons_self rfl (fun w hc => ld1 ag39 hc)) (wanted_none rfl) rfl rfl (by kernel_rfl) (hq_d (fun t => by simp [results, Tryz.results70, Array.getElem?_setIfInBounds])) ?_; clear S a; intro a S
  refine d_pure (i := 4) #[true, true, true, true, true, false, false, false, false] S rfl (p_fieldAddr rfl (fun w => fa112_0 w _ _)) (wanted_none rfl) rfl rfl (by kernel_rfl) (hq_d (fun t => by simp [results, Tryz.results70, Array.getElem?_setIfInBounds])) ?_; clear S a; intro a S
  refine d_read (i := 5) #[true, true, true, true, true, true, false, false, false] S H rfl (r_load rfl (List.mem_cons_of_mem _ (List.mem_append_right _ (List.mem_append_right _ List.mem_cons_self))) rfl (fun w hc => ld1 ag9 hc)) (wanted_none rfl) rfl rfl (by kernel_rfl) (hq_d (fun t => by simp [results, Tryz.results70, Array.getElem?_setIfInBounds])) ?_; clear S a; intro a S
  refine d_ownB (i := 6) [_] (xs := (((([] : List Int) ++ [36]) ++ wq.dec tx.size) ++ [13, 10])) (r := (ints tx)) #[true, true, true, true, true, true, true, false, false] S H rfl rfl rfl rfl hn7 (wq.src_str Tryz.underlying9 _) Tryz.underlying39 in5 rfl (by simp only [List.length_append, List.length_cons, List.length_nil, wq.dec_len, ints_len]; have := wq.nDigits_le (u := tx.size) (k := 18) (by omega); omega) (by decide) (wanted_none rfl) rfl rfl (by kernel_rfl) rfl ?_; clear S a H; intro An8 cn8 own8 w a hn8 H S
  replace H : HH B wb _ ((gb, .cells #[.slice An7 (((([] : List Int) ++ [36]) ++ wq.dec tx.size) ++ [13, 10]).length cn7] 39 (0, 0)) :: (own8 ++ (po' ++ ((g1, .cells #[.string tx, .bool false] 112 (0, 0)) :: ((go, .cells #[.func (.func 37) #[.pointer (some ⟨bp, 0, none⟩)] #[], .func (.func 38) #[.pointer (some ⟨bp, 0, none⟩)] #[], .func (.func 39) #[.pointer (some ⟨br, 0, none⟩)] #[], .func (.func 40) #[] #[], .func (.func 42) #[] #[], .bool false, .bool false] 96 (0, 0)) :: (bs ++ L0)))))) := H
  refine d_pure (i := 7) #[true, true, true, true, true, true, true, true, false] S rfl (p_nilCheck rfl) (wanted_none rfl) rfl rfl (by kernel_rfl) (hq_d (fun t => by simp [results, Tryz.results70, Array.getElem?_setIfInBounds])) ?_; clear S a; intro a S
  refine d_store (i := 8) #[true, true, true, true, true, true, true, true, true] S H rfl rfl rfl rfl .here (by first | decide | simp [Value.cells]) (fun w u hc hz => st1 sz39 rfl hc hz) (wanted_none rfl) rfl (by kernel_rfl) rfl ?_; clear S a H; intro w a H S
  refine d_done (by kernel_rfl) ?_
  refine e_then ?_
  refine wp_seq ?_
  refine d_start (id := 9) [5, 7] 8 #[false, false, false, false, false, false, false, false] H rfl rfl rfl (fun w H => ?_)
  refine d_pure (i := 0) #[true, false, false, false, false, false, false, false] S rfl (p_move rfl) (wanted_none rfl) rfl rfl (by kernel_rfl) (hq_d (fun t => by simp [results, Tryz.results70, Array.getElem?_setIfInBounds])) ?_; clear S a; intro a S
  refine d_pure (i := 1) #[true, true, false, false, false, false, false, false] S rfl (p_move rfl) (wanted_none rfl) rfl rfl (by kernel_rfl) (hq_d (fun t => by simp [results, Tryz.results70, Array.getElem?_setIfInBounds])) ?_; clear S a; intro a S
  refine d_pure (i := 2) #[true, true, true, false, false, false, false, false] S rfl (p_nilCheck rfl) (wanted_none rfl) rfl rfl (by kernel_rfl) (hq_d (fun t => by simp [results, Tryz.results70, Array.getElem?_setIfInBounds])) ?_; clear S a; intro a S
  refine d_read (i := 3) #[true, true, true, true, false, false, false, false] S H rfl (r_load rfl List.mem_cons_self rfl (fun w hc => ld1 ag39 hc)) (wanted_none rfl) rfl rfl (by kernel_rfl) (hq_d (fun t => by simp [results, Tryz.results70, Array.getElem?_setIfInBounds])) ?_; clear S a; intro a S
  have hcon := delim_ wb _ B _ H
  refine d_call (i := 4) #[true, true, true, true, true, false, false, false] S rfl rfl rfl Tryz.func82 rfl rfl hcon (wanted_none rfl) rfl rfl (by kernel_rfl) rfl ?_
  rintro e w ⟨gd, rfl, hH⟩; refine ⟨_, rfl, hH.tail, ?_⟩; clear hcon H; have H := hH; clear hH; clear S a; intro a S
  refine d_ownB (i := 5) [_, _] (xs := ((((([] : List Int) ++ [36]) ++ wq.dec tx.size) ++ [13, 10]) ++ (ints tx))) (r := [13, 10]) #[true, true, true, true, true, true, false, false] S H rfl rfl rfl rfl hn8 (src_lit (vs := ([13, 10]).map (Value.int .u8)) H List.mem_cons_self Tryz.underlying39 (by simp [Value.oneCell'])) Tryz.underlying39 in5 rfl (by simp only [List.length_append, List.length_cons, List.length_nil, wq.dec_len, ints_len]; have := wq.nDigits_le (u := tx.size) (k := 18) (by omega); omega) (by decide) (wanted_none rfl) rfl rfl (by kernel_rfl) rfl ?_; clear S a H; intro An9 cn9 own9 w a hn9 H S
  replace H := H.tail
  replace H : HH B wb _ ((gb, .cells #[.slice An8 ((((([] : List Int) ++ [36]) ++ wq.dec tx.size) ++ [13, 10]) ++ (ints tx)).length cn8] 39 (0, 0)) :: (own9 ++ (po' ++ ((g1, .cells #[.string tx, .bool false] 112 (0, 0)) :: ((go, .cells #[.func (.func 37) #[.pointer (some ⟨bp, 0, none⟩)] #[], .func (.func 38) #[.pointer (some ⟨bp, 0, none⟩)] #[], .func (.func 39) #[.pointer (some ⟨br, 0, none⟩)] #[], .func (.func 40) #[] #[], .func (.func 42) #[] #[], .bool false, .bool false] 96 (0, 0)) :: (bs ++ L0)))))) := H
  refine d_pure (i := 6) #[true, true, true, true, true, true, true, false] S rfl (p_nilCheck rfl) (wanted_none rfl) rfl rfl (by kernel_rfl) (hq_d (fun t => by simp [results, Tryz.results70, Array.getElem?_setIfInBounds])) ?_; clear S a; intro a S
  refine d_store (i := 7) #[true, true, true, true, true, true, true, true] S H rfl rfl rfl rfl .here (by first | decide | simp [Value.cells]) (fun w u hc hz => st1 sz39 rfl hc hz) (wanted_none rfl) rfl (by kernel_rfl) rfl ?_; clear S a H; intro w a H S
  refine d_done (by kernel_rfl) ?_
  refine e_then ?_
  refine wp_seq ?_
  refine d_start (id := 10) [6] 12 #[false, false, false, false, false, false, false, false, false, false, false, false] H rfl rfl rfl (fun w H => ?_)
  refine d_pure (i := 0) #[true, false, false, false, false, false, false, false, false, false, false, false] S rfl (p_move rfl) (wanted_none rfl) rfl rfl (by kernel_rfl) (hq_d (fun t => by simp [results, Tryz.results70, Array.getElem?_setIfInBounds])) ?_; clear S a; intro a S
  refine d_pure (i := 1) #[true, true, false, false, false, false, false, false, false, false, false, false] S rfl (p_move rfl) (wanted_none rfl) rfl rfl (by kernel_rfl) (hq_d (fun t => by simp [results, Tryz.results70, Array.getElem?_setIfInBounds])) ?_; clear S a; intro a S
  refine d_pure (i := 2) #[true, true, true, false, false, false, false, false, false, false, false, false] S rfl (p_nilCheck rfl) (wanted_none rfl) rfl rfl (by kernel_rfl) (hq_d (fun t => by simp [results, Tryz.results70, Array.getElem?_setIfInBounds])) ?_; clear S a; intro a S
  refine d_read (i := 3) #[true, true, true, true, false, false, false, false, false, false, false, false] S H rfl (r_load rfl List.mem_cons_self rfl (fun w hc => ld1 ag39 hc)) (wanted_none rfl) rfl rfl (by kernel_rfl) (hq_d (fun t => by simp [results, Tryz.results70, Array.getElem?_setIfInBounds])) ?_; clear S a; intro a S
  refine d_pure (i := 4) #[true, true, true, true, true, false, false, false, false, false, false, false] S rfl (p_nilCheckI rfl) (wanted_none rfl) rfl rfl (by kernel_rfl) (hq_d (fun t => by simp [results, Tryz.results70, Array.getElem?_setIfInBounds])) ?_; clear S a; intro a S
  refine d_pure (i := 5) #[true, true, true, true, true, true, false, false, false, false, false, false] S rfl (p_move rfl) (wanted_none rfl) rfl rfl (by kernel_rfl) (hq_d (fun t => by simp [results, Tryz.results70, Array.getElem?_setIfInBounds])) ?_; clear S a; intro a S
  obtain ⟨gr, cr, fr, rfl, rfl, hlc, hcr, hth, hrow⟩ := rp.own_open hn9 (by simp only [List.length_append, List.length_cons, List.length_nil]; omega)
  replace H : HH B wb _ ((gb, .cells #[.slice (some ⟨gr, 0, none⟩) (((((([] : List Int) ++ [36]) ++ wq.dec tx.size) ++ [13, 10]) ++ (ints tx)) ++ [13, 10]).length cn9] 39 (0, 0)) :: ((gr, .cells cr 5 fr) :: (po' ++ ((g1, .cells #[.string tx, .bool false] 112 (0, 0)) :: ((go, .cells #[.func (.func 37) #[.pointer (some ⟨bp, 0, none⟩)] #[], .func (.func 38) #[.pointer (some ⟨bp, 0, none⟩)] #[], .func (.func 39) #[.pointer (some ⟨br, 0, none⟩)] #[], .func (.func 40) #[] #[], .func (.func 42) #[] #[], .bool false, .bool false] 96 (0, 0)) :: (bs ++ L0)))))) := H
  have H2 := HH.front (L1 := ((gb, .cells #[.slice (some ⟨gr, 0, none⟩) (((((([] : List Int) ++ [36]) ++ wq.dec tx.size) ++ [13, 10]) ++ (ints tx)) ++ [13, 10]).length cn9] 39 (0, 0)) :: ((gr, .cells cr 5 fr) :: (po' ++ ((g1, .cells #[.string tx, .bool false] 112 (0, 0)) :: [(go, .cells #[.func (.func 37) #[.pointer (some ⟨bp, 0, none⟩)] #[], .func (.func 38) #[.pointer (some ⟨bp, 0, none⟩)] #[], .func (.func 39) #[.pointer (some ⟨br, 0, none⟩)] #[], .func (.func 40) #[] #[], .func (.func 42) #[] #[], .bool false, .bool false] 96 (0, 0))]))))) (S := bs) (L2 := L0) (HH.app H (by simp))
  have hcon := bb.write_ wb _ B (((gb, .cells #[.slice (some ⟨gr, 0, none⟩) (((((([] : List Int) ++ [36]) ++ wq.dec tx.size) ++ [13, 10]) ++ (ints tx)) ++ [13, 10]).length cn9] 39 (0, 0)) :: ((gr, .cells cr 5 fr) :: (po' ++ ((g1, .cells #[.string tx, .bool false] 112 (0, 0)) :: [(go, .cells #[.func (.func 37) #[.pointer (some ⟨bp, 0, none⟩)] #[], .func (.func 38) #[.pointer (some ⟨bp, 0, none⟩)] #[], .func (.func 39) #[.pointer (some ⟨br, 0, none⟩)] #[], .func (.func 40) #[] #[], .func (.func 42) #[] #[], .bool false, .bool false] 96 (0, 0))])))) ++ L0) b l bs hz gr 0 cn9 cr fr (((((([] : List Int) ++ [36]) ++ wq.dec tx.size) ++ [13, 10]) ++ (ints tx)) ++ [13, 10]) (by simp) hrow (by simp only [List.length_append, List.length_cons, List.length_nil]; omega) H2 (by simp only [List.length_append, List.length_cons, List.length_nil, wq.dec_len, ints_len]; have := wq.nDigits_le (u := tx.size) (k := 18) (by omega); omega)
  refine d_invoke_last (i := 6) #[true, true, true, true, true, true, true, false, false, false, false, false] S rfl rfl rfl rfl (meW _ _) Tryz.func148 rfl rfl hcon (wanted_none rfl) rfl rfl (by kernel_rfl) rfl ?_
  rintro e w ⟨rfl, bs2, hz2, hH⟩
  refine ⟨_, rfl, ?_⟩; clear S a; intro a S; clear H H2 hcon
  have H : HH B wb w ((gb, .cells #[.slice (some ⟨gr, 0, none⟩) (((((([] : List Int) ++ [36]) ++ wq.dec tx.size) ++ [13, 10]) ++ (ints tx)) ++ [13, 10]).length cn9] 39 (0, 0)) :: ((gr, .cells cr 5 fr) :: (po' ++ ((g1, .cells #[.string tx, .bool false] 112 (0, 0)) :: ((go, .cells #[.func (.func 37) #[.pointer (some ⟨bp, 0, none⟩)] #[], .func (.func 38) #[.pointer (some ⟨bp, 0, none⟩)] #[], .func (.func 39) #[.pointer (some ⟨br, 0, none⟩)] #[], .func (.func 40) #[] #[], .func (.func 42) #[] #[], .bool false, .bool false] 96 (0, 0)) :: (bs2 ++ L0)))))) := HH.app (HH.front (L1 := bs2) (S := ((gb, .cells #[.slice (some ⟨gr, 0, none⟩) (((((([] : List Int) ++ [36]) ++ wq.dec tx.size) ++ [13, 10]) ++ (ints tx)) ++ [13, 10]).length cn9] 39 (0, 0)) :: ((gr, .cells cr 5 fr) :: (po' ++ ((g1, .cells #[.string tx, .bool false] 112 (0, 0)) :: [(go, .cells #[.func (.func 37) #[.pointer (some ⟨bp, 0, none⟩)] #[], .func (.func 38) #[.pointer (some ⟨bp, 0, none⟩)] #[], .func (.func 39) #[.pointer (some ⟨br, 0, none⟩)] #[], .func (.func 40) #[] #[], .func (.func 42) #[] #[], .bool false, .bool false] 96 (0, 0))]))))) (L2 := L0) hH) (by simp)
  clear hH
  refine d_pure (i := 7) #[true, true, true, true, true, true, true, true, false, false, false, false] S rfl (p_move rfl) (wanted_none rfl) rfl rfl (by kernel_rfl) (hq_d (fun t => by simp [results, Tryz.results70, Array.getElem?_setIfInBounds])) ?_; clear S a; intro a S
  refine d_pure (i := 8) #[true, true, true, true, true, true, true, true, true, false, false, false] S rfl (p_extract rfl rfl) (wanted_none rfl) rfl rfl (by kernel_rfl) (hq_d (fun t => by simp [results, Tryz.results70, Array.getElem?_setIfInBounds])) ?_; clear S a; intro a S
  refine d_pure (i := 9) #[true, true, true, true, true, true, true, true, true, true, false, false] S rfl (p_extract rfl rfl) (wanted_none rfl) rfl rfl (by kernel_rfl) (hq_d (fun t => by simp [results, Tryz.results70, Array.getElem?_setIfInBounds])) ?_; clear S a; intro a S
  refine d_pure (i := 10) #[true, true, true, true, true, true, true, true, true, true, true, false] S rfl (p_assign rfl) (wanted_none rfl) rfl rfl (by kernel_rfl) (hq_d (fun t => by simp [results, Tryz.results70, Array.getElem?_setIfInBounds])) ?_; clear S a; intro a S
  refine d_pure (i := 11) #[true, true, true, true, true, true, true, true, true, true, true, true] S rfl (p_assign rfl) (wanted_none rfl) rfl rfl (by kernel_rfl) (hq_d (fun t => by simp [results, Tryz.results70, Array.getElem?_setIfInBounds])) ?_; clear S a; intro a S
  refine d_done (by kernel_rfl) ?_
  refine e_then ?_
  refine wp_seq ?_
  refine c_region ?_
  refine l_pure S (p_move rfl) rfl rfl rfl ?_; clear S a; intro a S
  refine l_pure S (p_assign rfl) rfl rfl rfl ?_; clear S a; intro a S
  refine l_nil ?_
  refine e_then ?_
  refine wp_ret ?_
  refine r_doorA S (pl.put_ wb _ B ((g1, .cells #[.string tx, .bool false] 112 (0, 0)) :: ((go, .cells #[.func (.func 37) #[.pointer (some ⟨bp, 0, none⟩)] #[], .func (.func 38) #[.pointer (some ⟨bp, 0, none⟩)] #[], .func (.func 39) #[.pointer (some ⟨br, 0, none⟩)] #[], .func (.func 40) #[] #[], .func (.func 42) #[] #[], .bool false, .bool false] 96 (0, 0)) :: (bs2 ++ L0))) bp gb cn9 (some ⟨gr, 0, none⟩) (((((([] : List Int) ++ [36]) ++ wq.dec tx.size) ++ [13, 10]) ++ (ints tx)) ++ [13, 10]) po' [(gr, .cells cr 5 fr)] hp' hn9 H) (invokesA (vs := [.pointer (some ⟨bp, 0, none⟩), .pointer (some ⟨gb, 0, none⟩)]) (caps := []) Tryz.func38 rfl rfl) (fun w' _ => res_t1 rfl rfl) ?_
  rintro w' ⟨po2, hp2, hH⟩
  have H3 := HH.front (L1 := po2) (S := ((g1, .cells #[.string tx, .bool false] 112 (0, 0)) :: [(go, .cells #[.func (.func 37) #[.pointer (some ⟨bp, 0, none⟩)] #[], .func (.func 38) #[.pointer (some ⟨bp, 0, none⟩)] #[], .func (.func 39) #[.pointer (some ⟨br, 0, none⟩)] #[], .func (.func 40) #[] #[], .func (.func 42) #[] #[], .bool false, .bool false] 96 (0, 0))])) (L2 := bs2 ++ L0) (HH.app hH (by simp))
  exact ⟨rfl, _, ⟨br, po2, bs2, hp2, by simpa using hz2, rfl⟩, HH.app (L := ((go, .cells #[.func (.func 37) #[.pointer (some ⟨bp, 0, none⟩)] #[], .func (.func 38) #[.pointer (some ⟨bp, 0, none⟩)] #[], .func (.func 39) #[.pointer (some ⟨br, 0, none⟩)] #[], .func (.func 40) #[] #[], .func (.func 42) #[] #[], .bool false, .bool false] 96 (0, 0)) :: (po2 ++ (bs2 ++ L0)))) (L' := ((go, .cells #[.func (.func 37) #[.pointer (some ⟨bp, 0, none⟩)] #[], .func (.func 38) #[.pointer (some ⟨bp, 0, none⟩)] #[], .func (.func 39) #[.pointer (some ⟨br, 0, none⟩)] #[], .func (.func 40) #[] #[], .func (.func 42) #[] #[], .bool false, .bool false] 96 (0, 0)) :: (po2 ++ bs2)) ++ L0) (HH.app (L' := ((g1, .cells #[.string tx, .bool false] 112 (0, 0)) :: ((go, .cells #[.func (.func 37) #[.pointer (some ⟨bp, 0, none⟩)] #[], .func (.func 38) #[.pointer (some ⟨bp, 0, none⟩)] #[], .func (.func 39) #[.pointer (some ⟨br, 0, none⟩)] #[], .func (.func 40) #[] #[], .func (.func 42) #[] #[], .bool false, .bool false] 96 (0, 0)) :: (po2 ++ (bs2 ++ L0))))) H3 (by simp)).tail (by simp)⟩
theorem mbs_ (wb w0 : World) (B : Nat) (L0 : dc.Bk) (go bp b : Nat) (l : List Int) (ls : dc.Bk) (hE : Env go bp b l ls) (ht : Lib.TabBelow Tryz.prog B wb "internal/strconv.uint64pow10" .u64 Lib.pow10Tab) (H : HH B wb w0 (ls ++ L0)) (hl : l.length ≤ 10000000) (tx : ByteArray) (hx : tx.size ≤ 10000000) : Calls Tryz.prog 54 #[.nilIface, .iface 47 (.pointer (some ⟨b, 0, none⟩)), .string tx, .pointer (some ⟨go, 0, none⟩)] w0 fun e w' => e = .returned .nilIface ∧ ∃ ls', Env go bp b (l ++ (36 :: (wq.dec tx.size ++ [13, 10] ++ (ints tx) ++ [13, 10]))) ls' ∧ HH B wb w' (ls' ++ L0) := by
  refine c_enter (args := [.nilIface, .iface 47 (.pointer (some ⟨b, 0, none⟩)), .string tx, .pointer (some ⟨go, 0, none⟩)]) (k := 13) Tryz.func54 rfl rfl rfl (fun a S => ?_)
  refine wp_seq ?_
  refine c_region ?_
  refine l_pure S (p_assign rfl) rfl rfl rfl ?_; clear S a; intro a S
  refine l_nil ?_
  refine e_then ?_
  refine wp_seq ?_
  refine wp_seq ?_
  refine c_region ?_
  refine l_pure S (p_move rfl) rfl rfl rfl ?_; clear S a; intro a S
  refine l_pure S (p_nilnilN mi45 rfl) rfl rfl rfl ?_; clear S a; intro a S
  refine l_nil ?_
  refine e_then ?_
  refine c_cond (b := false) S rfl (fun h => by cases h) (fun _ => ?_)
  refine wp_skip ?_
  refine e_then ?_
  refine wp_seq ?_
  refine c_region ?_
  refine l_pure S (p_move rfl) rfl rfl rfl ?_; clear S a; intro a S
  refine l_pure S (p_bld (ps := [(0, .tmp 12)]) rfl (bld112_0 _)) rfl rfl rfl ?_; clear S a; intro a S
  refine l_pure S (p_move rfl) rfl rfl rfl ?_; clear S a; intro a S
  refine l_pure S (p_move rfl) rfl rfl rfl ?_; clear S a; intro a S
  have hcon := bst_ wb _ B L0 go bp b l ls hE ht H hl tx hx
  refine l_call S rfl rfl Tryz.func70 rfl rfl (hcon) rfl rfl rfl ?_
  rintro e w ⟨rfl, ls', hE', hH⟩
  refine ⟨_, rfl, ?_⟩; clear S a; intro a S
  clear H hcon
  refine l_pure S (p_assign rfl) rfl rfl rfl ?_; clear S a; intro a S
  refine l_nil ?_
  refine e_then ?_
  refine wp_ret ?_
  exact r_ret1 S rfl rfl ⟨rfl, ls', hE', hH⟩
set_option maxHeartbeats 1000000 in
theorem bsb_ (wb w0 : World) (B : Nat) (L0 : dc.Bk) (go bp b : Nat) (l : List Int) (ls : dc.Bk) (hE : Env go bp b l ls) (ht : Lib.TabBelow Tryz.prog B wb "internal/strconv.uint64pow10" .u64 Lib.pow10Tab) (H : HH B wb w0 (ls ++ L0)) (hl : l.length ≤ 10000000) (gx ox cx : Nat) (csx : Array Value) (fx : Nat × Nat) (x : List Int) (hmx : (gx, Obj.cells csx 5 fx) ∈ L0) (hrx : bf.Row csx ox x) (hx : x.length ≤ 10000000) : Calls Tryz.prog 69 #[.agg #[.slice (some ⟨gx, ox, none⟩) x.length cx, .bool false], .iface 47 (.pointer (some ⟨b, 0, none⟩)), .pointer (some ⟨go, 0, none⟩)] w0 fun e w' => e = .returned .nilIface ∧ ∃ ls', Env go bp b (l ++ (36 :: (wq.dec x.length ++ [13, 10] ++ x ++ [13, 10]))) ls' ∧ HH B wb w' (ls' ++ L0) := by
  obtain ⟨br, po, bs, hp, hz, rfl⟩ := hE
  replace H : HH B wb w0 ((go, .cells #[.func (.func 37) #[.pointer (some ⟨bp, 0, none⟩)] #[], .func (.func 38) #[.pointer (some ⟨bp, 0, none⟩)] #[], .func (.func 39) #[.pointer (some ⟨br, 0, none⟩)] #[], .func (.func 40) #[] #[], .func (.func 42) #[] #[], .bool false, .bool false] 96 (0, 0)) :: (po ++ (bs ++ L0))) := HH.app H (by simp)
  refine c_enter_d (args := [.agg #[.slice (some ⟨gx, ox, none⟩) x.length cx, .bool false], .iface 47 (.pointer (some ⟨b, 0, none⟩)), .pointer (some ⟨go, 0, none⟩)]) (k := 75) Tryz.func69 rfl rfl rfl (fun a S => ?_)
  refine wp_seq ?_
  refine c_region ?_
  refine l_box (cs := #[.slice (some ⟨gx, ox, none⟩) x.length cx, .bool false]) S H rfl rfl (fun w => bx) rfl rfl rfl ?_; clear S a H; intro g1 w a H S
  refine l_pure S (p_assign rfl) rfl rfl rfl ?_; clear S a; intro a S
  refine l_nil ?_
  refine e_then ?_
  refine wp_seq ?_
  refine c_region ?_
  refine l_pure S (p_move rfl) rfl rfl rfl ?_; clear S a; intro a S
  refine l_pure S (p_nilCheck rfl) rfl rfl rfl ?_; clear S a; intro a S
  refine l_pure S (p_fieldAddr rfl (fun w => fa96_0 w _ _)) rfl rfl rfl ?_; clear S a; intro a S
  refine l_read S H (r_load rfl (List.mem_cons_of_mem _ List.mem_cons_self) rfl (fun w hc => ld1 ag80 hc)) rfl rfl rfl ?_; clear S a; intro a S
  replace H : HH B wb _ ((g1, .cells #[.slice (some ⟨gx, ox, none⟩) x.length cx, .bool false] 110 (0, 0)) :: ((go, .cells #[.func (.func 37) #[.pointer (some ⟨bp, 0, none⟩)] #[], .func (.func 38) #[.pointer (some ⟨bp, 0, none⟩)] #[], .func (.func 39) #[.pointer (some ⟨br, 0, none⟩)] #[], .func (.func 40) #[] #[], .func (.func 42) #[] #[], .bool false, .bool false] 96 (0, 0)) :: (po ++ (bs ++ L0)))) := H
  replace H : HH B wb _ (po ++ ((g1, .cells #[.slice (some ⟨gx, ox, none⟩) x.length cx, .bool false] 110 (0, 0)) :: ((go, .cells #[.func (.func 37) #[.pointer (some ⟨bp, 0, none⟩)] #[], .func (.func 38) #[.pointer (some ⟨bp, 0, none⟩)] #[], .func (.func 39) #[.pointer (some ⟨br, 0, none⟩)] #[], .func (.func 40) #[] #[], .func (.func 42) #[] #[], .bool false, .bool false] 96 (0, 0)) :: (bs ++ L0)))) := HH.app (HH.front (L1 := ((g1, .cells #[.slice (some ⟨gx, ox, none⟩) x.length cx, .bool false] 110 (0, 0)) :: [(go, .cells #[.func (.func 37) #[.pointer (some ⟨bp, 0, none⟩)] #[], .func (.func 38) #[.pointer (some ⟨bp, 0, none⟩)] #[], .func (.func 39) #[.pointer (some ⟨br, 0, none⟩)] #[], .func (.func 40) #[] #[], .func (.func 42) #[] #[], .bool false, .bool false] 96 (0, 0))])) (S := po) (L2 := (bs ++ L0)) (HH.app H (by simp))) (by simp)
  have hcon := pl.get_ wb _ B ((g1, .cells #[.slice (some ⟨gx, ox, none⟩) x.length cx, .bool false] 110 (0, 0)) :: ((go, .cells #[.func (.func 37) #[.pointer (some ⟨bp, 0, none⟩)] #[], .func (.func 38) #[.pointer (some ⟨bp, 0, none⟩)] #[], .func (.func 39) #[.pointer (some ⟨br, 0, none⟩)] #[], .func (.func 40) #[] #[], .func (.func 42) #[] #[], .bool false, .bool false] 96 (0, 0)) :: (bs ++ L0))) bp po hp H
  refine l_callv (us := [.pointer (some ⟨bp, 0, none⟩)]) (cs := []) S rfl rfl rfl Tryz.func37 rfl rfl hcon rfl rfl rfl ?_
  rintro e w ⟨po', hp', gb, A0, c0, ow0, rfl, hown0, hH⟩
  refine ⟨_, rfl, ?_⟩; clear S a; intro a S; clear H hcon; have H := hH; clear hH
  refine l_pure S (p_assign rfl) rfl rfl rfl ?_; clear S a; intro a S
  refine l_nil ?_
  refine e_then ?_
  refine wp_seq ?_
  refine c_region ?_
  refine l_pure S (p_move rfl) rfl rfl rfl ?_; clear S a; intro a S
  refine l_pure S (p_nilCheck rfl) rfl rfl rfl ?_; clear S a; intro a S
  refine l_pure S (p_fieldAddr rfl (fun w => fa96_1 w _ _)) rfl rfl rfl ?_; clear S a; intro a S
  refine l_read S H (r_load rfl (List.mem_cons_of_mem _ (List.mem_append_right _ (List.mem_append_right _ (List.mem_cons_of_mem _ List.mem_cons_self)))) rfl (fun w hc => ld1 ag81 hc)) rfl rfl rfl ?_; clear S a; intro a S
  refine l_pure S (p_move rfl) rfl rfl rfl ?_; clear S a; intro a S
  refine l_defer (xs := [.tmp 19]) (us := [.pointer (some ⟨bp, 0, none⟩)]) (cs := []) (vs := [.pointer (some ⟨gb, 0, none⟩)]) S rfl rfl rfl rfl rfl ?_; clear S a; intro a S
  refine l_nil ?_
  refine e_then ?_
  refine wp_seq ?_
  refine c_region ?_
  refine l_pure S (p_move rfl) rfl rfl rfl ?_; clear S a; intro a S
  refine l_pure S (p_move rfl) rfl rfl rfl ?_; clear S a; intro a S
  refine l_pure S (p_nilCheck rfl) rfl rfl rfl ?_; clear S a; intro a S
  refine l_read S H (r_load rfl List.mem_cons_self rfl (fun w hc => ld1 ag39 hc)) rfl rfl rfl ?_; clear S a; intro a S
  refine l_lit [(.const (.int .u8 36))] S H rfl rfl Tryz.underlying39 sz5 zv5 rfl rfl (by simp [Value.cells]) rfl rfl rfl ?_; clear S a H; intro g2 w a H S
  refine l_ownB [_, _] (l := ([] : List Int)) (r := [36]) S H rfl rfl rfl hown0 (src_lit (vs := ([36]).map (Value.int .u8)) H List.mem_cons_self Tryz.underlying39 (by simp [Value.oneCell'])) Tryz.underlying39 in5 rfl (by simp only [List.length_append, List.length_cons, List.length_nil, wq.dec_len, ints_len]; have := wq.nDigits_le (u := x.length) (k := 18) (by omega); omega) (by decide) rfl rfl rfl ?_; clear S a H; intro An3 cn3 own3 w a hn3 H S
  replace H := H.tail
  replace H : HH B wb _ ((gb, .cells #[.slice A0 ([] : List Int).length c0] 39 (0, 0)) :: (own3 ++ (po' ++ ((g1, .cells #[.slice (some ⟨gx, ox, none⟩) x.length cx, .bool false] 110 (0, 0)) :: ((go, .cells #[.func (.func 37) #[.pointer (some ⟨bp, 0, none⟩)] #[], .func (.func 38) #[.pointer (some ⟨bp, 0, none⟩)] #[], .func (.func 39) #[.pointer (some ⟨br, 0, none⟩)] #[], .func (.func 40) #[] #[], .func (.func 42) #[] #[], .bool false, .bool false] 96 (0, 0)) :: (bs ++ L0)))))) := H
  refine l_pure S (p_nilCheck rfl) rfl rfl rfl ?_; clear S a; intro a S
  refine l_store S H rfl rfl rfl .here (by first | decide | simp [Value.cells]) (fun w u hc hz => st1 sz39 rfl hc hz) rfl rfl ?_; clear S a H; intro w a H S
  refine l_nil ?_
  refine e_then ?_
  refine wp_seq ?_
  refine wp_seq ?_
  refine c_region ?_
  refine l_pure S (p_fieldAddr rfl (fun w => fa110_1 w _ _)) rfl rfl rfl ?_; clear S a; intro a S
  refine l_read S H (r_load rfl (List.mem_cons_of_mem _ (List.mem_append_right _ (List.mem_append_right _ List.mem_cons_self))) rfl (fun w hc => ld1 ag4 hc)) rfl rfl rfl ?_; clear S a; intro a S
  refine l_nil ?_
  refine e_then ?_
  refine c_cond (b := false) S rfl (fun h => by cases h) (fun _ => ?_)
  refine wp_seq ?_
  refine d_start (id := 6) [7, 9] 10 #[false, false, false, false, false, false, false, false, false, false] H rfl rfl rfl (fun w H => ?_)
  refine d_pure (i := 0) #[true, false, false, false, false, false, false, false, false, false] S rfl (p_move rfl) (wanted_none rfl) rfl rfl (by kernel_rfl) (hq_d (fun t => by simp [results, Tryz.results69, Array.getElem?_setIfInBounds])) ?_; clear S a; intro a S
  refine d_pure (i := 1) #[true, true, false, false, false, false, false, false, false, false] S rfl (p_move rfl) (wanted_none rfl) rfl rfl (by kernel_rfl) (hq_d (fun t => by simp [results, Tryz.results69, Array.getElem?_setIfInBounds])) ?_; clear S a; intro a S
  refine d_pure (i := 2) #[true, true, true, false, false, false, false, false, false, false] S rfl (p_nilCheck rfl) (wanted_none rfl) rfl rfl (by kernel_rfl) (hq_d (fun t => by simp [results, Tryz.results69, Array.getElem?_setIfInBounds])) ?_; clear S a; intro a S
  refine d_read (i := 3) #[true, true, true, true, false, false, false, false, false, false] S H rfl (r_load rfl List.mem_cons_self rfl (fun w hc => ld1 ag39 hc)) (wanted_none rfl) rfl rfl (by kernel_rfl) (hq_d (fun t => by simp [results, Tryz.results69, Array.getElem?_setIfInBounds])) ?_; clear S a; intro a S
  refine d_pure (i := 4) #[true, true, true, true, true, false, false, false, false, false] S rfl (p_fieldAddr rfl (fun w => fa110_0 w _ _)) (wanted_none rfl) rfl rfl (by kernel_rfl) (hq_d (fun t => by simp [results, Tryz.results69, Array.getElem?_setIfInBounds])) ?_; clear S a; intro a S
  refine d_read (i := 5) #[true, true, true, true, true, true, false, false, false, false] S H rfl (r_load rfl (List.mem_cons_of_mem _ (List.mem_append_right _ (List.mem_append_right _ List.mem_cons_self))) rfl (fun w hc => ld1 ag39 hc)) (wanted_none rfl) rfl rfl (by kernel_rfl) (hq_d (fun t => by simp [results, Tryz.results69, Array.getElem?_setIfInBounds])) ?_; clear S a; intro a S
  refine d_pure (i := 6) #[true, true, true, true, true, true, true, false, false, false] S rfl (p_len Tryz.underlying39 rfl) (wanted_none rfl) rfl rfl (by kernel_rfl) (hq_d (fun t => by simp [results, Tryz.results69, Array.getElem?_setIfInBounds])) ?_; clear S a; intro a S
  have hcon := nm.appI_ wb _ B ((gb, .cells #[.slice An3 (([] : List Int) ++ [36]).length cn3] 39 (0, 0)) :: (po' ++ ((g1, .cells #[.slice (some ⟨gx, ox, none⟩) x.length cx, .bool false] 110 (0, 0)) :: ((go, .cells #[.func (.func 37) #[.pointer (some ⟨bp, 0, none⟩)] #[], .func (.func 38) #[.pointer (some ⟨bp, 0, none⟩)] #[], .func (.func 39) #[.pointer (some ⟨br, 0, none⟩)] #[], .func (.func 40) #[] #[], .func (.func 42) #[] #[], .bool false, .bool false] 96 (0, 0)) :: (bs ++ L0))))) ht An3 cn3 x.length (([] : List Int) ++ [36]) own3 hn3 H.mid (by have := wq.nDigits_le (u := x.length) (k := 18) (by omega); omega) (by simp only [List.length_append, List.length_cons, List.length_nil, wq.dec_len, ints_len]; have := wq.nDigits_le (u := x.length) (k := 18) (by omega); omega)
  refine d_call_last (i := 7) #[true, true, true, true, true, true, true, true, false, false] S rfl rfl rfl Tryz.func81 rfl rfl hcon (wanted_none rfl) rfl rfl (by kernel_rfl) rfl ?_
  rintro e w ⟨An6, cn6, own6, rfl, hn6, hH⟩
  refine ⟨_, rfl, ?_⟩; clear S a; intro a S; clear H hcon; have H := hH.unmid; clear hH
  refine d_pure (i := 8) #[true, true, true, true, true, true, true, true, true, false] S rfl (p_nilCheck rfl) (wanted_none rfl) rfl rfl (by kernel_rfl) (hq_d (fun t => by simp [results, Tryz.results69, Array.getElem?_setIfInBounds])) ?_; clear S a; intro a S
  refine d_store (i := 9) #[true, true, true, true, true, true, true, true, true, true] S H rfl rfl rfl rfl .here (by first | decide | simp [Value.cells]) (fun w u hc hz => st1 sz39 rfl hc hz) (wanted_none rfl) rfl (by kernel_rfl) rfl ?_; clear S a H; intro w a H S
  refine d_done (by kernel_rfl) ?_
  refine e_then ?_
  refine wp_seq ?_
  refine d_start (id := 7) [5, 7] 8 #[false, false, false, false, false, false, false, false] H rfl rfl rfl (fun w H => ?_)
  refine d_pure (i := 0) #[true, false, false, false, false, false, false, false] S rfl (p_move rfl) (wanted_none rfl) rfl rfl (by kernel_rfl) (hq_d (fun t => by simp [results, Tryz.results69, Array.getElem?_setIfInBounds])) ?_; clear S a; intro a S
  refine d_pure (i := 1) #[true, true, false, false, false, false, false, false] S rfl (p_move rfl) (wanted_none rfl) rfl rfl (by kernel_rfl) (hq_d (fun t => by simp [results, Tryz.results69, Array.getElem?_setIfInBounds])) ?_; clear S a; intro a S
  refine d_pure (i := 2) #[true, true, true, false, false, false, false, false] S rfl (p_nilCheck rfl) (wanted_none rfl) rfl rfl (by kernel_rfl) (hq_d (fun t => by simp [results, Tryz.results69, Array.getElem?_setIfInBounds])) ?_; clear S a; intro a S
  refine d_read (i := 3) #[true, true, true, true, false, false, false, false] S H rfl (r_load rfl List.mem_cons_self rfl (fun w hc => ld1 ag39 hc)) (wanted_none rfl) rfl rfl (by kernel_rfl) (hq_d (fun t => by simp [results, Tryz.results69, Array.getElem?_setIfInBounds])) ?_; clear S a; intro a S
  have hcon := delim_ wb _ B _ H
  refine d_call (i := 4) #[true, true, true, true, true, false, false, false] S rfl rfl rfl Tryz.func82 rfl rfl hcon (wanted_none rfl) rfl rfl (by kernel_rfl) rfl ?_
  rintro e w ⟨gd, rfl, hH⟩; refine ⟨_, rfl, hH.tail, ?_⟩; clear hcon H; have H := hH; clear hH; clear S a; intro a S
  refine d_ownB (i := 5) [_, _] (xs := ((([] : List Int) ++ [36]) ++ wq.dec x.length)) (r := [13, 10]) #[true, true, true, true, true, true, false, false] S H rfl rfl rfl rfl hn6 (src_lit (vs := ([13, 10]).map (Value.int .u8)) H List.mem_cons_self Tryz.underlying39 (by simp [Value.oneCell'])) Tryz.underlying39 in5 rfl (by simp only [List.length_append, List.length_cons, List.length_nil, wq.dec_len, ints_len]; have := wq.nDigits_le (u := x.length) (k := 18) (by omega); omega) (by decide) (wanted_none rfl) rfl rfl (by kernel_rfl) rfl ?_; clear S a H; intro An7 cn7 own7 w a hn7 H S
  replace H := H.tail
  replace H : HH B wb _ ((gb, .cells #[.slice An6 ((([] : List Int) ++ [36]) ++ wq.dec x.length).length cn6] 39 (0, 0)) :: (own7 ++ (po' ++ ((g1, .cells #[.slice (some ⟨gx, ox, none⟩) x.length cx, .bool false] 110 (0, 0)) :: ((go, .cells #[.func (.func 37) #[.pointer (some ⟨bp, 0, none⟩)] #[], .func (.func 38) #[.pointer (some ⟨bp, 0, none⟩)] #[], .func (.func 39) #[.pointer (some ⟨br, 0, none⟩)] #[], .func (.func 40) #[] #[], .func (.func 42) #[] #[], .bool false, .bool false] 96 (0, 0)) :: (bs ++ L0)))))) := H
  refine d_pure (i := 6) #[true, true, true, true, true, true, true, false] S rfl (p_nilCheck rfl) (wanted_none rfl) rfl rfl (by kernel_rfl) (hq_d (fun t => by simp [results, Tryz.results69, Array.getElem?_setIfInBounds])) ?_; clear S a; intro a S
  refine d_store (i := 7) #[true, true, true, true, true, true, true, true] S H rfl rfl rfl rfl .here (by first | decide | simp [Value.cells]) (fun w u hc hz => st1 sz39 rfl hc hz) (wanted_none rfl) rfl (by kernel_rfl) rfl ?_; clear S a H; intro w a H S
  refine d_done (by kernel_rfl) ?_
  refine e_then ?_
  refine d_start (id := 8) [6, 8] 9 #[false, false, false, false, false, false, false, false, false] H rfl rfl rfl (fun w H => ?_)
  refine d_pure (i := 0) #[true, false, false, false, false, false, false, false, false] S rfl (p_move rfl) (wanted_none rfl) rfl rfl (by kernel_rfl) (hq_d (fun t => by simp [results, Tryz.results69, Array.getElem?_setIfInBounds])) ?_; clear S a; intro a S
  refine d_pure (i := 1) #[true, true, false, false, false, false, false, false, false] S rfl (p_move rfl) (wanted_none rfl) rfl rfl (by kernel_rfl) (hq_d (fun t => by simp [results, Tryz.results69, Array.getElem?_setIfInBounds])) ?_; clear S a; intro a S
  refine d_pure (i := 2) #[true, true, true, false, false, false, false, false, false] S rfl (p_nilCheck rfl) (wanted_none rfl) rfl rfl (by kernel_rfl) (hq_d (fun t => by simp [results, Tryz.results69, Array.getElem?_setIfInBounds])) ?_; clear S a; intro a S
  refine d_read (i := 3) #[true, true, true, true, false, false, false, false, false] S H rfl (r_load rfl List.mem_cons_self rfl (fun w hc => ld1 ag39 hc)) (wanted_none rfl) rfl rfl (by kernel_rfl) (hq_d (fun t => by simp [results, Tryz.results69, Array.getElem?_setIfInBounds])) ?_; clear S a; intro a S
  refine d_pure (i := 4) #[true, true, true, true, true, false, false, false, false] S rfl (p_fieldAddr rfl (fun w => fa110_0 w _ _)) (wanted_none rfl) rfl rfl (by kernel_rfl) (hq_d (fun t => by simp [results, Tryz.results69, Array.getElem?_setIfInBounds])) ?_; clear S a; intro a S
  refine d_read (i := 5) #[true, true, true, true, true, true, false, false, false] S H rfl (r_load rfl (List.mem_cons_of_mem _ (List.mem_append_right _ (List.mem_append_right _ List.mem_cons_self))) rfl (fun w hc => ld1 ag39 hc)) (wanted_none rfl) rfl rfl (by kernel_rfl) (hq_d (fun t => by simp [results, Tryz.results69, Array.getElem?_setIfInBounds])) ?_; clear S a; intro a S
  refine d_ownB (i := 6) [_] (xs := (((([] : List Int) ++ [36]) ++ wq.dec x.length) ++ [13, 10])) (r := x) #[true, true, true, true, true, true, true, false, false] S H rfl rfl rfl rfl hn7 (src_rb (rp.row_rb H (List.mem_cons_of_mem _ (List.mem_append_right _ (List.mem_append_right _ (List.mem_cons_of_mem _ (List.mem_cons_of_mem _ (List.mem_append_right _ hmx)))))) hrx) Tryz.underlying39) Tryz.underlying39 in5 rfl (by simp only [List.length_append, List.length_cons, List.length_nil, wq.dec_len, ints_len]; have := wq.nDigits_le (u := x.length) (k := 18) (by omega); omega) (by decide) (wanted_none rfl) rfl rfl (by kernel_rfl) rfl ?_; clear S a H; intro An8 cn8 own8 w a hn8 H S
  replace H : HH B wb _ ((gb, .cells #[.slice An7 (((([] : List Int) ++ [36]) ++ wq.dec x.length) ++ [13, 10]).length cn7] 39 (0, 0)) :: (own8 ++ (po' ++ ((g1, .cells #[.slice (some ⟨gx, ox, none⟩) x.length cx, .bool false] 110 (0, 0)) :: ((go, .cells #[.func (.func 37) #[.pointer (some ⟨bp, 0, none⟩)] #[], .func (.func 38) #[.pointer (some ⟨bp, 0, none⟩)] #[], .func (.func 39) #[.pointer (some ⟨br, 0, none⟩)] #[], .func (.func 40) #[] #[], .func (.func 42) #[] #[], .bool false, .bool false] 96 (0, 0)) :: (bs ++ L0)))))) := H
  refine d_pure (i := 7) #[true, true, true, true, true, true, true, true, false] S rfl (p_nilCheck rfl) (wanted_none rfl) rfl rfl (by kernel_rfl) (hq_d (fun t => by simp [results, Tryz.results69, Array.getElem?_setIfInBounds])) ?_; clear S a; intro a S
  refine d_store (i := 8) #[true, true, true, true, true, true, true, true, true] S H rfl rfl rfl rfl .here (by first | decide | simp [Value.cells]) (fun w u hc hz => st1 sz39 rfl hc hz) (wanted_none rfl) rfl (by kernel_rfl) rfl ?_; clear S a H; intro w a H S
  refine d_done (by kernel_rfl) ?_
  refine e_then ?_
  refine wp_seq ?_
  refine d_start (id := 9) [5, 7] 8 #[false, false, false, false, false, false, false, false] H rfl rfl rfl (fun w H => ?_)
  refine d_pure (i := 0) #[true, false, false, false, false, false, false, false] S rfl (p_move rfl) (wanted_none rfl) rfl rfl (by kernel_rfl) (hq_d (fun t => by simp [results, Tryz.results69, Array.getElem?_setIfInBounds])) ?_; clear S a; intro a S
  refine d_pure (i := 1) #[true, true, false, false, false, false, false, false] S rfl (p_move rfl) (wanted_none rfl) rfl rfl (by kernel_rfl) (hq_d (fun t => by simp [results, Tryz.results69, Array.getElem?_setIfInBounds])) ?_; clear S a; intro a S
  refine d_pure (i := 2) #[true, true, true, false, false, false, false, false] S rfl (p_nilCheck rfl) (wanted_none rfl) rfl rfl (by kernel_rfl) (hq_d (fun t => by simp [results, Tryz.results69, Array.getElem?_setIfInBounds])) ?_; clear S a; intro a S
  refine d_read (i := 3) #[true, true, true, true, false, false, false, false] S H rfl (r_load rfl List.mem_cons_self rfl (fun w hc => ld1 ag39 hc)) (wanted_none rfl) rfl rfl (by kernel_rfl) (hq_d (fun t => by simp [results, Tryz.results69, Array.getElem?_setIfInBounds])) ?_; clear S a; intro a S
  have hcon := delim_ wb _ B _ H
  refine d_call (i := 4) #[true, true, true, true, true, false, false, false] S rfl rfl rfl Tryz.func82 rfl rfl hcon (wanted_none rfl) rfl rfl (by kernel_rfl) rfl ?_
  rintro e w ⟨gd, rfl, hH⟩; refine ⟨_, rfl, hH.tail, ?_⟩; clear hcon H; have H := hH; clear hH; clear S a; intro a S
  refine d_ownB (i := 5) [_, _] (xs := ((((([] : List Int) ++ [36]) ++ wq.dec x.length) ++ [13, 10]) ++ x)) (r := [13, 10]) #[true, true, true, true, true, true, false, false] S H rfl rfl rfl rfl hn8 (src_lit (vs := ([13, 10]).map (Value.int .u8)) H List.mem_cons_self Tryz.underlying39 (by simp [Value.oneCell'])) Tryz.underlying39 in5 rfl (by simp only [List.length_append, List.length_cons, List.length_nil, wq.dec_len, ints_len]; have := wq.nDigits_le (u := x.length) (k := 18) (by omega); omega) (by decide) (wanted_none rfl) rfl rfl (by kernel_rfl) rfl ?_; clear S a H; intro An9 cn9 own9 w a hn9 H S
  replace H := H.tail
  replace H : HH B wb _ ((gb, .cells #[.slice An8 ((((([] : List Int) ++ [36]) ++ wq.dec x.length) ++ [13, 10]) ++ x).length cn8] 39 (0, 0)) :: (own9 ++ (po' ++ ((g1, .cells #[.slice (some ⟨gx, ox, none⟩) x.length cx, .bool false] 110 (0, 0)) :: ((go, .cells #[.func (.func 37) #[.pointer (some ⟨bp, 0, none⟩)] #[], .func (.func 38) #[.pointer (some ⟨bp, 0, none⟩)] #[], .func (.func 39) #[.pointer (some ⟨br, 0, none⟩)] #[], .func (.func 40) #[] #[], .func (.func 42) #[] #[], .bool false, .bool false] 96 (0, 0)) :: (bs ++ L0)))))) := H
  refine d_pure (i := 6) #[true, true, true, true, true, true, true, false] S rfl (p_nilCheck rfl) (wanted_none rfl) rfl rfl (by kernel_rfl) (hq_d (fun t => by simp [results, Tryz.results69, Array.getElem?_setIfInBounds])) ?_; clear S a; intro a S
  refine d_store (i := 7) #[true, true, true, true, true, true, true, true] S H rfl rfl rfl rfl .here (by first | decide | simp [Value.cells]) (fun w u hc hz => st1 sz39 rfl hc hz) (wanted_none rfl) rfl (by kernel_rfl) rfl ?_; clear S a H; intro w a H S
  refine d_done (by kernel_rfl) ?_
  refine e_then ?_
  refine wp_seq ?_
  refine d_start (id := 10) [6] 12 #[false, false, false, false, false, false, false, false, false, false, false, false] H rfl rfl rfl (fun w H => ?_)
  refine d_pure (i := 0) #[true, false, false, false, false, false, false, false, false, false, false, false] S rfl (p_move rfl) (wanted_none rfl) rfl rfl (by kernel_rfl) (hq_d (fun t => by simp [results, Tryz.results69, Array.getElem?_setIfInBounds])) ?_; clear S a; intro a S
  refine d_pure (i := 1) #[true, true, false, false, false, false, false, false, false, false, false, false] S rfl (p_move rfl) (wanted_none rfl) rfl rfl (by kernel_rfl) (hq_d (fun t => by simp [results, Tryz.results69, Array.getElem?_setIfInBounds])) ?_; clear S a; intro a S
  refine d_pure (i := 2) #[true, true, true, false, false, false, false, false, false, false, false, false] S rfl (p_nilCheck rfl) (wanted_none rfl) rfl rfl (by kernel_rfl) (hq_d (fun t => by simp [results, Tryz.results69, Array.getElem?_setIfInBounds])) ?_; clear S a; intro a S
  refine d_read (i := 3) #[true, true, true, true, false, false, false, false, false, false, false, false] S H rfl (r_load rfl List.mem_cons_self rfl (fun w hc => ld1 ag39 hc)) (wanted_none rfl) rfl rfl (by kernel_rfl) (hq_d (fun t => by simp [results, Tryz.results69, Array.getElem?_setIfInBounds])) ?_; clear S a; intro a S
  refine d_pure (i := 4) #[true, true, true, true, true, false, false, false, false, false, false, false] S rfl (p_nilCheckI rfl) (wanted_none rfl) rfl rfl (by kernel_rfl) (hq_d (fun t => by simp [results, Tryz.results69, Array.getElem?_setIfInBounds])) ?_; clear S a; intro a S
  refine d_pure (i := 5) #[true, true, true, true, true, true, false, false, false, false, false, false] S rfl (p_move rfl) (wanted_none rfl) rfl rfl (by kernel_rfl) (hq_d (fun t => by simp [results, Tryz.results69, Array.getElem?_setIfInBounds])) ?_; clear S a; intro a S
  obtain ⟨gr, cr, fr, rfl, rfl, hlc, hcr, hth, hrow⟩ := rp.own_open hn9 (by simp only [List.length_append, List.length_cons, List.length_nil]; omega)
  replace H : HH B wb _ ((gb, .cells #[.slice (some ⟨gr, 0, none⟩) (((((([] : List Int) ++ [36]) ++ wq.dec x.length) ++ [13, 10]) ++ x) ++ [13, 10]).length cn9] 39 (0, 0)) :: ((gr, .cells cr 5 fr) :: (po' ++ ((g1, .cells #[.slice (some ⟨gx, ox, none⟩) x.length cx, .bool false] 110 (0, 0)) :: ((go, .cells #[.func (.func 37) #[.pointer (some ⟨bp, 0, none⟩)] #[], .func (.func 38) #[.pointer (some ⟨bp, 0, none⟩)] #[], .func (.func 39) #[.pointer (some ⟨br, 0, none⟩)] #[], .func (.func 40) #[] #[], .func (.func 42) #[] #[], .bool false, .bool false] 96 (0, 0)) :: (bs ++ L0)))))) := H
  have H2 := HH.front (L1 := ((gb, .cells #[.slice (some ⟨gr, 0, none⟩) (((((([] : List Int) ++ [36]) ++ wq.dec x.length) ++ [13, 10]) ++ x) ++ [13, 10]).length cn9] 39 (0, 0)) :: ((gr, .cells cr 5 fr) :: (po' ++ ((g1, .cells #[.slice (some ⟨gx, ox, none⟩) x.length cx, .bool false] 110 (0, 0)) :: [(go, .cells #[.func (.func 37) #[.pointer (some ⟨bp, 0, none⟩)] #[], .func (.func 38) #[.pointer (some ⟨bp, 0, none⟩)] #[], .func (.func 39) #[.pointer (some ⟨br, 0, none⟩)] #[], .func (.func 40) #[] #[], .func (.func 42) #[] #[], .bool false, .bool false] 96 (0, 0))]))))) (S := bs) (L2 := L0) (HH.app H (by simp))
  have hcon := bb.write_ wb _ B (((gb, .cells #[.slice (some ⟨gr, 0, none⟩) (((((([] : List Int) ++ [36]) ++ wq.dec x.length) ++ [13, 10]) ++ x) ++ [13, 10]).length cn9] 39 (0, 0)) :: ((gr, .cells cr 5 fr) :: (po' ++ ((g1, .cells #[.slice (some ⟨gx, ox, none⟩) x.length cx, .bool false] 110 (0, 0)) :: [(go, .cells #[.func (.func 37) #[.pointer (some ⟨bp, 0, none⟩)] #[], .func (.func 38) #[.pointer (some ⟨bp, 0, none⟩)] #[], .func (.func 39) #[.pointer (some ⟨br, 0, none⟩)] #[], .func (.func 40) #[] #[], .func (.func 42) #[] #[], .bool false, .bool false] 96 (0, 0))])))) ++ L0) b l bs hz gr 0 cn9 cr fr (((((([] : List Int) ++ [36]) ++ wq.dec x.length) ++ [13, 10]) ++ x) ++ [13, 10]) (by simp) hrow (by simp only [List.length_append, List.length_cons, List.length_nil]; omega) H2 (by simp only [List.length_append, List.length_cons, List.length_nil, wq.dec_len, ints_len]; have := wq.nDigits_le (u := x.length) (k := 18) (by omega); omega)
  refine d_invoke_last (i := 6) #[true, true, true, true, true, true, true, false, false, false, false, false] S rfl rfl rfl rfl (meW _ _) Tryz.func148 rfl rfl hcon (wanted_none rfl) rfl rfl (by kernel_rfl) rfl ?_
  rintro e w ⟨rfl, bs2, hz2, hH⟩
  refine ⟨_, rfl, ?_⟩; clear S a; intro a S; clear H H2 hcon
  have H : HH B wb w ((gb, .cells #[.slice (some ⟨gr, 0, none⟩) (((((([] : List Int) ++ [36]) ++ wq.dec x.length) ++ [13, 10]) ++ x) ++ [13, 10]).length cn9] 39 (0, 0)) :: ((gr, .cells cr 5 fr) :: (po' ++ ((g1, .cells #[.slice (some ⟨gx, ox, none⟩) x.length cx, .bool false] 110 (0, 0)) :: ((go, .cells #[.func (.func 37) #[.pointer (some ⟨bp, 0, none⟩)] #[], .func (.func 38) #[.pointer (some ⟨bp, 0, none⟩)] #[], .func (.func 39) #[.pointer (some ⟨br, 0, none⟩)] #[], .func (.func 40) #[] #[], .func (.func 42) #[] #[], .bool false, .bool false] 96 (0, 0)) :: (bs2 ++ L0)))))) := HH.app (HH.front (L1 := bs2) (S := ((gb, .cells #[.slice (some ⟨gr, 0, none⟩) (((((([] : List Int) ++ [36]) ++ wq.dec x.length) ++ [13, 10]) ++ x) ++ [13, 10]).length cn9] 39 (0, 0)) :: ((gr, .cells cr 5 fr) :: (po' ++ ((g1, .cells #[.slice (some ⟨gx, ox, none⟩) x.length cx, .bool false] 110 (0, 0)) :: [(go, .cells #[.func (.func 37) #[.pointer (some ⟨bp, 0, none⟩)] #[], .func (.func 38) #[.pointer (some ⟨bp, 0, none⟩)] #[], .func (.func 39) #[.pointer (some ⟨br, 0, none⟩)] #[], .func (.func 40) #[] #[], .func (.func 42) #[] #[], .bool false, .bool false] 96 (0, 0))]))))) (L2 := L0) hH) (by simp)
  clear hH
  refine d_pure (i := 7) #[true, true, true, true, true, true, true, true, false, false, false, false] S rfl (p_move rfl) (wanted_none rfl) rfl rfl (by kernel_rfl) (hq_d (fun t => by simp [results, Tryz.results69, Array.getElem?_setIfInBounds])) ?_; clear S a; intro a S
  refine d_pure (i := 8) #[true, true, true, true, true, true, true, true, true, false, false, false] S rfl (p_extract rfl rfl) (wanted_none rfl) rfl rfl (by kernel_rfl) (hq_d (fun t => by simp [results, Tryz.results69, Array.getElem?_setIfInBounds])) ?_; clear S a; intro a S
  refine d_pure (i := 9) #[true, true, true, true, true, true, true, true, true, true, false, false] S rfl (p_extract rfl rfl) (wanted_none rfl) rfl rfl (by kernel_rfl) (hq_d (fun t => by simp [results, Tryz.results69, Array.getElem?_setIfInBounds])) ?_; clear S a; intro a S
  refine d_pure (i := 10) #[true, true, true, true, true, true, true, true, true, true, true, false] S rfl (p_assign rfl) (wanted_none rfl) rfl rfl (by kernel_rfl) (hq_d (fun t => by simp [results, Tryz.results69, Array.getElem?_setIfInBounds])) ?_; clear S a; intro a S
  refine d_pure (i := 11) #[true, true, true, true, true, true, true, true, true, true, true, true] S rfl (p_assign rfl) (wanted_none rfl) rfl rfl (by kernel_rfl) (hq_d (fun t => by simp [results, Tryz.results69, Array.getElem?_setIfInBounds])) ?_; clear S a; intro a S
  refine d_done (by kernel_rfl) ?_
  refine e_then ?_
  refine wp_seq ?_
  refine c_region ?_
  refine l_pure S (p_move rfl) rfl rfl rfl ?_; clear S a; intro a S
  refine l_pure S (p_assign rfl) rfl rfl rfl ?_; clear S a; intro a S
  refine l_nil ?_
  refine e_then ?_
  refine wp_ret ?_
  refine r_doorA S (pl.put_ wb _ B ((g1, .cells #[.slice (some ⟨gx, ox, none⟩) x.length cx, .bool false] 110 (0, 0)) :: ((go, .cells #[.func (.func 37) #[.pointer (some ⟨bp, 0, none⟩)] #[], .func (.func 38) #[.pointer (some ⟨bp, 0, none⟩)] #[], .func (.func 39) #[.pointer (some ⟨br, 0, none⟩)] #[], .func (.func 40) #[] #[], .func (.func 42) #[] #[], .bool false, .bool false] 96 (0, 0)) :: (bs2 ++ L0))) bp gb cn9 (some ⟨gr, 0, none⟩) (((((([] : List Int) ++ [36]) ++ wq.dec x.length) ++ [13, 10]) ++ x) ++ [13, 10]) po' [(gr, .cells cr 5 fr)] hp' hn9 H) (invokesA (vs := [.pointer (some ⟨bp, 0, none⟩), .pointer (some ⟨gb, 0, none⟩)]) (caps := []) Tryz.func38 rfl rfl) (fun w' _ => res_t1 rfl rfl) ?_
  rintro w' ⟨po2, hp2, hH⟩
  have H3 := HH.front (L1 := po2) (S := ((g1, .cells #[.slice (some ⟨gx, ox, none⟩) x.length cx, .bool false] 110 (0, 0)) :: [(go, .cells #[.func (.func 37) #[.pointer (some ⟨bp, 0, none⟩)] #[], .func (.func 38) #[.pointer (some ⟨bp, 0, none⟩)] #[], .func (.func 39) #[.pointer (some ⟨br, 0, none⟩)] #[], .func (.func 40) #[] #[], .func (.func 42) #[] #[], .bool false, .bool false] 96 (0, 0))])) (L2 := bs2 ++ L0) (HH.app hH (by simp))
  exact ⟨rfl, _, ⟨br, po2, bs2, hp2, by simpa using hz2, rfl⟩, HH.app (L := ((go, .cells #[.func (.func 37) #[.pointer (some ⟨bp, 0, none⟩)] #[], .func (.func 38) #[.pointer (some ⟨bp, 0, none⟩)] #[], .func (.func 39) #[.pointer (some ⟨br, 0, none⟩)] #[], .func (.func 40) #[] #[], .func (.func 42) #[] #[], .bool false, .bool false] 96 (0, 0)) :: (po2 ++ (bs2 ++ L0)))) (L' := ((go, .cells #[.func (.func 37) #[.pointer (some ⟨bp, 0, none⟩)] #[], .func (.func 38) #[.pointer (some ⟨bp, 0, none⟩)] #[], .func (.func 39) #[.pointer (some ⟨br, 0, none⟩)] #[], .func (.func 40) #[] #[], .func (.func 42) #[] #[], .bool false, .bool false] 96 (0, 0)) :: (po2 ++ bs2)) ++ L0) (HH.app (L' := ((g1, .cells #[.slice (some ⟨gx, ox, none⟩) x.length cx, .bool false] 110 (0, 0)) :: ((go, .cells #[.func (.func 37) #[.pointer (some ⟨bp, 0, none⟩)] #[], .func (.func 38) #[.pointer (some ⟨bp, 0, none⟩)] #[], .func (.func 39) #[.pointer (some ⟨br, 0, none⟩)] #[], .func (.func 40) #[] #[], .func (.func 42) #[] #[], .bool false, .bool false] 96 (0, 0)) :: (po2 ++ (bs2 ++ L0))))) H3 (by simp)).tail (by simp)⟩
theorem mbsb_ (wb w0 : World) (B : Nat) (L0 : dc.Bk) (go bp b : Nat) (l : List Int) (ls : dc.Bk) (hE : Env go bp b l ls) (ht : Lib.TabBelow Tryz.prog B wb "internal/strconv.uint64pow10" .u64 Lib.pow10Tab) (H : HH B wb w0 (ls ++ L0)) (hl : l.length ≤ 10000000) (gx ox cx : Nat) (csx : Array Value) (fx : Nat × Nat) (x : List Int) (hmx : (gx, Obj.cells csx 5 fx) ∈ L0) (hrx : bf.Row csx ox x) (hx : x.length ≤ 10000000) : Calls Tryz.prog 52 #[.nilIface, .iface 47 (.pointer (some ⟨b, 0, none⟩)), .slice (some ⟨gx, ox, none⟩) x.length cx, .pointer (some ⟨go, 0, none⟩)] w0 fun e w' => e = .returned .nilIface ∧ ∃ ls', Env go bp b (l ++ (36 :: (wq.dec x.length ++ [13, 10] ++ x ++ [13, 10]))) ls' ∧ HH B wb w' (ls' ++ L0) := by
  refine c_enter (args := [.nilIface, .iface 47 (.pointer (some ⟨b, 0, none⟩)), .slice (some ⟨gx, ox, none⟩) x.length cx, .pointer (some ⟨go, 0, none⟩)]) (k := 13) Tryz.func52 rfl rfl rfl (fun a S => ?_)
  refine wp_seq ?_
  refine c_region ?_
  refine l_pure S (p_assign rfl) rfl rfl rfl ?_; clear S a; intro a S
  refine l_nil ?_
  refine e_then ?_
  refine wp_seq ?_
  refine wp_seq ?_
  refine c_region ?_
  refine l_pure S (p_move rfl) rfl rfl rfl ?_; clear S a; intro a S
  refine l_pure S (p_nilnilN mi45 rfl) rfl rfl rfl ?_; clear S a; intro a S
  refine l_nil ?_
  refine e_then ?_
  refine c_cond (b := false) S rfl (fun h => by cases h) (fun _ => ?_)
  refine wp_skip ?_
  refine e_then ?_
  refine wp_seq ?_
  refine c_region ?_
  refine l_pure S (p_move rfl) rfl rfl rfl ?_; clear S a; intro a S
  refine l_pure S (p_bld (ps := [(0, .tmp 12)]) rfl (bld110_0 _ _ _)) rfl rfl rfl ?_; clear S a; intro a S
  refine l_pure S (p_move rfl) rfl rfl rfl ?_; clear S a; intro a S
  refine l_pure S (p_move rfl) rfl rfl rfl ?_; clear S a; intro a S
  have hcon := bsb_ wb _ B L0 go bp b l ls hE ht H hl gx ox cx csx fx x hmx hrx hx
  refine l_call S rfl rfl Tryz.func69 rfl rfl (hcon) rfl rfl rfl ?_
  rintro e w ⟨rfl, ls', hE', hH⟩
  refine ⟨_, rfl, ?_⟩; clear S a; intro a S
  clear H hcon
  refine l_pure S (p_assign rfl) rfl rfl rfl ?_; clear S a; intro a S
  refine l_nil ?_
  refine e_then ?_
  refine wp_ret ?_
  exact r_ret1 S rfl rfl ⟨rfl, ls', hE', hH⟩
end ms
end Go.Proofs.YtnmelglnkefjfaaGreatDoor.wr
