/- FnScriptWrite: the sum of a script. -/
import Derived.Test.YtnmelglnkefjfaaGreatDoorShaC
import Derived.Test.YtnmelglnkefjfaaGreatDoorWz
namespace Go.Proofs.YtnmelglnkefjfaaGreatDoor.wr
open Go.RowKit Go.Proofs.HHW Go.Proofs.YtnmelglnkefjfaaGreatDoorW.PrintWords
set_option linter.unusedVariables false
set_option linter.unusedSimpArgs false
namespace sm
theorem ag132 : aggB Tryz.prog 132 = some true := by kernel_rfl
theorem ag72 : aggB Tryz.prog 72 = some true := by kernel_rfl
theorem sz132 : szB Tryz.prog 132 = some 20 := by kernel_rfl
theorem sz5 : szB Tryz.prog 5 = some 1 := by kernel_rfl
theorem sz72 : szB Tryz.prog 72 = some 2 := by kernel_rfl
theorem zv72 : zvB Tryz.prog 72 = some (.agg #[.string ⟨#[]⟩, .string ⟨#[]⟩]) := by kernel_rfl
theorem bld72_0_1 (x0_0 : ByteArray) (x1_0 : ByteArray) : Tryz.prog.built 72 [(0, (.string x0_0)), (1, (.string x1_0))] = some #[.string x0_0, .string x1_0] := by kernel_rfl

theorem dgD_nil (x : List Int) : sha.dg sha.init x 0 0 = sha.dgD [] x := by
  unfold sha.dgD
  rw [sha.blks_short (by decide)]
  rfl
theorem by4_range (x : sha.Wd) : ∀ y ∈ sha.by4 x, 0 ≤ y ∧ y ≤ 255 := by
  intro y hy
  unfold sha.by4 at hy
  simp only [List.mem_cons, List.not_mem_nil, or_false] at hy
  rcases hy with rfl | rfl | rfl | rfl <;> omega
theorem sum_range (l : List Int) : ∀ y ∈ sha.sum l, 0 ≤ y ∧ y ≤ 255 := by
  intro y hy
  unfold sha.sum sha.outb at hy
  simp only [List.mem_append] at hy
  rcases hy with (((h | h) | h) | h) | h <;> exact by4_range _ y h
theorem sum_ (wb w0 : World) (B : Nat) (L0 : dc.Bk) (gp op c : Nat) (l : List Int) (csp : Array Value) (ep : TypeId) (fp : Nat × Nat) (hby : ∀ y ∈ l, 0 ≤ y ∧ y ≤ 255) (hm : (gp, Obj.cells csp ep fp) ∈ L0) (hrow : ∀ (i : Nat) (v : Int), l[i]? = some v → csp[op + i]? = some (Value.int .u8 v)) (hc : l.length ≤ c) (hs : l.length ≤ 900000) (H : HH B wb w0 L0) : Calls Tryz.prog 49 #[.slice (some ⟨gp, op, none⟩) l.length c] w0 fun e w' => e = .returned (.agg ((sha.sum l).map (Value.int .u8)).toArray) ∧ HH B wb w' L0 := by
  refine c_enter (args := [.slice (some ⟨gp, op, none⟩) l.length c]) (k := 7) Tryz.func49 rfl rfl rfl (fun a S => ?_)
  refine wp_seq ?_
  refine c_region ?_
  refine l_alloc (cs := sha.ck.z20.toArray) S H rfl (fun w => al sha.ck.zv132) rfl rfl rfl ?_; clear S a H; intro g2 w a H S
  refine l_nil ?_
  refine e_then ?_
  refine wp_seq ?_
  refine c_region ?_
  refine l_alloc (cs := (sha.dg ⟨0#32, 0#32, 0#32, 0#32, 0#32⟩ (List.replicate 64 0) 0 0).toArray) S H rfl (fun w => al sha.im.zv168) rfl rfl rfl ?_; clear S a H; intro g3 w a H S
  refine l_nil ?_
  refine e_then ?_
  refine wp_seq ?_
  refine c_region ?_
  have hcon := sha.im.reset B wb _ ((g2, .cells sha.ck.z20.toArray 132 (0, 0)) :: L0) g3 _ _ 0 0 (by simp) H
  refine l_call S rfl rfl Tryz.func63 rfl rfl (hcon) rfl rfl rfl ?_
  rintro e w ⟨rfl, hH⟩
  refine ⟨_, rfl, ?_⟩; clear S a; intro a S
  rw [dgD_nil] at hH
  clear H hcon; have H := hH; clear hH
  refine l_nil ?_
  refine e_then ?_
  refine wp_seq ?_
  refine c_region ?_
  refine l_pure S (p_move rfl) rfl rfl rfl ?_; clear S a; intro a S
  have hcon := sha.wr.write_calls B wb _ ((g2, .cells sha.ck.z20.toArray 132 (0, 0)) :: L0) g3 [] _ sha.ok_nil gp op c l csp ep fp hby H (List.mem_cons_of_mem _ hm) hrow hc (by simp only [List.length_nil]; omega)
  refine l_call S rfl rfl Tryz.func64 rfl rfl (hcon) rfl rfl rfl ?_
  rintro e w ⟨rfl, x', ok', hH⟩
  refine ⟨_, rfl, ?_⟩; clear S a; intro a S
  rw [List.nil_append] at ok' hH
  clear H hcon; have H := hH; clear hH
  refine l_nil ?_
  refine e_then ?_
  refine wp_seq ?_
  refine c_region ?_
  have hcon := sha.ck.check_calls B wb _ ((g2, .cells sha.ck.z20.toArray 132 (0, 0)) :: L0) g3 l x' ok' (by omega) H
  refine l_call S rfl rfl Tryz.func65 rfl rfl (hcon) rfl rfl rfl ?_
  rintro e w ⟨rfl, cs5, hH⟩
  refine ⟨_, rfl, ?_⟩; clear S a; intro a S
  clear H hcon; have H := hH; clear hH
  refine l_storeAll (vs := (sha.sum l).map (Value.int .u8)) S H rfl rfl rfl (by rw [sz132]; rfl) (.there .here) rfl (fun v hv => by obtain ⟨y, _, rfl⟩ := List.mem_map.1 hv; rfl) rfl rfl ?_; clear S a H; intro w a H S
  refine l_nil ?_
  refine e_then ?_
  refine wp_ret ?_
  exact r_retc1 S rfl rfl (lva (cs := (sha.sum l).map (Value.int .u8)) ag132 sz132 rfl H (List.mem_cons_of_mem _ List.mem_cons_self)) ⟨rfl, H.tail.tail⟩
theorem script_ (wb w0 : World) (B : Nat) (L0 : dc.Bk) (s : ByteArray) (hs : s.size ≤ 100000) (H : HH B wb w0 L0) : Calls Tryz.prog 33 #[.string s] w0 fun e w' => e = .returned (.agg #[.string s, .string (strOfNums (px.hexB (sha.sum (ints s))))]) ∧ HH B wb w' L0 := by
  refine c_enter (args := [.string s]) (k := 12) Tryz.func33 rfl rfl rfl (fun a S => ?_)
  refine wp_seq ?_
  refine c_region ?_
  refine l_alloc (cs := #[.string ⟨#[]⟩, .string ⟨#[]⟩]) S H rfl (fun w => al zv72) rfl rfl rfl ?_; clear S a H; intro gE w a H S
  refine l_nil ?_
  refine e_then ?_
  refine wp_seq ?_
  refine c_region ?_
  refine l_pure S (p_move rfl) rfl rfl rfl ?_; clear S a; intro a S
  refine l_bytes (s := s) S H rfl rfl Tryz.underlying9 Tryz.underlying39 Tryz.underlying5 rfl rfl rfl ?_; clear S a H; intro gp cp csp fp w a H hcp hrow S
  rw [← ints_len] at hcp
  have hcon := sum_ wb _ B _ gp 0 cp (ints s) csp 5 fp (ints_range s) List.mem_cons_self (fun i v hi => by rw [Nat.zero_add]; exact hrow i v hi) hcp (by rw [ints_len]; omega) H
  refine l_call S rfl rfl Tryz.func49 rfl rfl (hcon) rfl rfl rfl ?_
  rintro e w ⟨rfl, hH⟩
  refine ⟨_, rfl, ?_⟩; clear S a; intro a S
  clear H hcon; have H := hH; clear hH
  refine l_alloc (cs := sha.ck.z20.toArray) S H rfl (fun w => al sha.ck.zv132) rfl rfl rfl ?_; clear S a H; intro gS w a H S
  refine l_storeAll (vs := (sha.sum (ints s)).map (Value.int .u8)) S H rfl rfl rfl (by rw [sz132]; rfl) .here rfl (fun v hv => by obtain ⟨y, _, rfl⟩ := List.mem_map.1 hv; rfl) rfl rfl ?_; clear S a H; intro w a H S
  refine l_nil ?_
  refine e_then ?_
  refine wp_seq ?_
  refine c_region ?_
  refine l_pure S (p_slice rfl (fun _ _ => o_none) (fun _ _ => o_none) (fun _ _ => o_none) (fun w => sl_arr_all Tryz.underlying132 sz5 (by decide))) rfl rfl rfl ?_; clear S a; intro a S
  have hcon := rf.hxs_ wb _ B _ gS 0 20 _ _ _ (sha.sum (ints s)) (sum_range _) (show 20 ≤ 100000 by decide) List.mem_cons_self (fun i v hi => by rw [Nat.zero_add]; simp [hi]) H
  refine l_call S rfl rfl Tryz.func50 rfl rfl (hcon) rfl rfl rfl ?_
  rintro e w ⟨rfl, hH⟩
  refine ⟨_, rfl, ?_⟩; clear S a; intro a S
  clear H hcon; have H := hH; clear hH
  refine l_pure S (p_assign rfl) rfl rfl rfl ?_; clear S a; intro a S
  refine l_nil ?_
  refine e_then ?_
  refine wp_seq ?_
  refine c_region ?_
  refine l_pure S (p_move rfl) rfl rfl rfl ?_; clear S a; intro a S
  refine l_pure S (p_move rfl) rfl rfl rfl ?_; clear S a; intro a S
  refine l_pure S (p_bld (ps := [(0, .tmp 10), (1, .tmp 11)]) rfl (bld72_0_1 _ _)) rfl rfl rfl ?_; clear S a; intro a S
  refine l_storeAll (vs := [.string s, .string (strOfNums (px.hexB (sha.sum (ints s))))]) S H rfl rfl rfl sz72 (.there (.there .here)) rfl (fun v hv => by simp only [List.mem_cons, List.not_mem_nil, or_false] at hv; rcases hv with rfl | rfl <;> rfl) rfl rfl ?_; clear S a H; intro w a H S
  refine l_nil ?_
  refine e_then ?_
  refine wp_ret ?_
  exact r_retc1 S rfl rfl (lva (cs := [.string s, .string (strOfNums (px.hexB (sha.sum (ints s))))]) ag72 sz72 rfl H (List.mem_cons_of_mem _ (List.mem_cons_of_mem _ List.mem_cons_self))) ⟨rfl, H.tail.tail.tail⟩
end sm
end Go.Proofs.YtnmelglnkefjfaaGreatDoor.wr
