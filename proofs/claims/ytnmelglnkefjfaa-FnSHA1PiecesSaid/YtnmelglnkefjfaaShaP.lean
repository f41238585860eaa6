/- SHA-1: of pieces, walked. -/
import Derived.Test.YtnmelglnkefjfaaShaC
namespace Go.Proofs.Ytnmelglnkefjfaa.sha
open Go.RowKit Go.Proofs.HHW Go.Proofs.YtnmelglnkefjfaaW.PrintWords
set_option linter.unusedVariables false
set_option linter.unusedSimpArgs false
namespace pc
theorem ag114 : aggB Try.prog 114 = some true := by kernel_rfl
theorem ag52 : aggB Try.prog 52 = some false := by kernel_rfl
theorem sz114 : szB Try.prog 114 = some 71 := by kernel_rfl
theorem sz116 : szB Try.prog 116 = some 20 := by kernel_rfl
theorem sz5 : szB Try.prog 5 = some 1 := by kernel_rfl
theorem sz52 : szB Try.prog 52 = some 1 := by kernel_rfl
theorem in5 : (Try.prog.info? 5).map (fun i => (i.zero, i.size, i.bytes)) = some (some (.int .u8 0), 1, 1) := by kernel_rfl
theorem dgD_nil (x : List Int) : dg init x 0 0 = dgD [] x := by
  unfold dgD
  rw [blks_short (by decide)]
  rfl
theorem dgD_all {D x : List Int} (ok : OkX D x) : ((dgD D x).toArray.toList.drop 0).take 71 = dgD D x := by
  show ((dgD D x).drop 0).take 71 = dgD D x
  rw [List.drop_zero, List.take_of_length_le (by unfold dgD; rw [dg_len ok.1]; exact Nat.le_refl _)]
theorem sum_calls (B : Nat) (wb w0 : World) (L0 : List (Nat × Obj)) (g : Nat) (D x : List Int) (ok : OkX D x) (hs : D.length ≤ 900000) (H : HH B wb w0 ((g, .cells (dgD D x).toArray 114 (0, 0)) :: L0)) : Calls Try.prog 33 #[.pointer (some ⟨g, 0, none⟩), .slice none 0 0] w0 fun e w' => ∃ go co, e = .returned (.slice (some ⟨go, 0, none⟩) (sum D).length co) ∧ RB w' go 0 (sum D) ∧ (sum D).length ≤ co ∧ HH B wb w' L0 := by
  refine c_enter (args := [.pointer (some ⟨g, 0, none⟩), .slice none 0 0]) (k := 12) Try.func33 rfl rfl rfl (fun a S => ?_)
  refine wp_seq ?_
  refine c_region ?_
  refine l_pure S (p_assign rfl) rfl rfl rfl ?_; clear S a; intro a S
  refine l_nil ?_
  refine e_then ?_
  refine wp_seq ?_
  refine c_region ?_
  refine l_pure S (p_move rfl) rfl rfl rfl ?_; clear S a; intro a S
  refine l_pure S (p_nilCheck rfl) rfl rfl rfl ?_; clear S a; intro a S
  refine l_read S H (r_loadn (m := 71) (vs := dgD D x) rfl List.mem_cons_self ag114 sz114 (by unfold dgD; exact dg_len ok.1) (dgD_all ok)) rfl rfl rfl ?_; clear S a; intro a S
  refine l_alloc (cs := (dg ⟨0#32, 0#32, 0#32, 0#32, 0#32⟩ (List.replicate 64 0) 0 0).toArray) S H rfl (fun w => al im.zv114) rfl rfl rfl ?_; clear S a H; intro g5 w a H S
  refine l_storeAll (vs := dgD D x) S H rfl rfl rfl (by rw [sz114]; unfold dgD; rw [dg_len ok.1]) .here (by unfold dgD; rw [show (dg ⟨0#32, 0#32, 0#32, 0#32, 0#32⟩ (List.replicate 64 0) 0 0).toArray.size = 71 from dg_len rfl, dg_len ok.1]) dg_one rfl rfl ?_; clear S a H; intro w a H S
  refine l_nil ?_
  refine e_then ?_
  refine wp_seq ?_
  refine c_region ?_
  have hcon := ck.check_calls B wb w _ g5 D x ok hs H
  refine l_call S rfl rfl Try.func49 rfl rfl (hcon) rfl rfl rfl ?_
  rintro e w ⟨rfl, cs5, hH⟩
  refine ⟨_, rfl, ?_⟩; clear S a; intro a S
  clear H; have H := hH; clear hH hcon
  refine l_alloc (cs := ck.z20.toArray) S H rfl (fun w => al ck.zv116) rfl rfl rfl ?_; clear S a H; intro g6 w a H S
  refine l_storeAll (vs := (sum D).map (Value.int .u8)) S H rfl rfl rfl (by rw [sz116]; rfl) .here rfl (fun v hv => by obtain ⟨y, _, rfl⟩ := List.mem_map.1 hv; rfl) rfl rfl ?_; clear S a H; intro w a H S
  refine l_nil ?_
  refine e_then ?_
  refine wp_seq ?_
  refine c_region ?_
  refine l_pure S (p_move rfl) rfl rfl rfl ?_; clear S a; intro a S
  refine l_pure S (p_slice rfl (fun _ _ => o_none) (fun _ _ => o_none) (fun _ _ => o_none) (fun w => sl_arr_all Try.underlying116 sz5 (by decide))) rfl rfl rfl ?_; clear S a; intro a S
  have hl20 : (sum D).length = 20 := rfl
  have H' : HH B wb w ([(g6, Obj.cells ((sum D).map (Value.int .u8)).toArray 116 (0, 0))] ++ ([] ++ ((g5, .cells cs5 114 (0, 0)) :: (g, .cells (dgD D x).toArray 114 (0, 0)) :: L0))) := H
  clear H
  refine l_ownB [_] (l := []) (r := sum D) (A := none) (c := 0) S H' rfl rfl rfl (ownB_nil 5) (src_lit (c := 20) (vs := (sum D).map (Value.int .u8)) H' List.mem_cons_self Try.underlying52 (fun v hv => by obtain ⟨y, _, rfl⟩ := List.mem_map.1 hv; rfl)) Try.underlying52 in5 rfl (by rw [hl20]; decide) (by decide) rfl rfl rfl ?_; clear S a H'; intro Ao co ow w a how H S; replace H := H.tail
  refine l_pure S (p_assign rfl) rfl rfl rfl ?_; clear S a; intro a S
  refine l_nil ?_
  refine e_then ?_
  refine wp_ret ?_
  obtain ⟨go, rfl, hrb, hco, _⟩ := how.rb H (by show 0 < 20; decide)
  have H2 := HH.bring (ow := ow) H
  have H3 := HH.tail H2
  have H4 := HH.tail H3
  exact r_ret1 S rfl rfl ⟨go, co, rfl, hrb, hco, H4⟩
/-- Pieces that lie in blocks that are told of, and a row of their slices. -/
def Pieces (L0 : List (Nat × Obj)) (A : Option Addr) (ps : List (List Int)) : Prop := ∀ (j : Nat) (p : List Int), ps[j]? = some p → ∃ gr csr er fr gp cp csp ep fp, A = some ⟨gr, 0, none⟩ ∧ (gr, Obj.cells csr er fr) ∈ L0 ∧ csr[j]? = some (.slice (some ⟨gp, 0, none⟩) p.length cp) ∧
  (gp, Obj.cells csp ep fp) ∈ L0 ∧ p.length ≤ cp ∧ ∀ (i : Nat) (v : Int), p[i]? = some v → csp[i]? = some (Value.int .u8 v)
def joined (ps : List (List Int)) : List Int := ps.flatten
theorem joined_succ {ps : List (List Int)} {j : Nat} {p : List Int} (h : ps[j]? = some p) : joined (ps.take (j + 1)) = joined (ps.take j) ++ p := by
  unfold joined
  rw [List.take_add_one, h]
  simp
theorem joined_le (ps : List (List Int)) (j : Nat) : (joined (ps.take j)).length ≤ (joined ps).length := by
  unfold joined
  conv => rhs; rw [← List.take_append_drop j ps]
  rw [List.flatten_append, List.length_append]
  omega
theorem zz_calls (B : Nat) (wb w0 : World) (L0 : List (Nat × Obj)) (A : Option Addr) (c : Nat) (ps : List (List Int)) (hps : Pieces L0 A ps) (hby : ∀ p ∈ ps, ∀ y ∈ p, 0 ≤ y ∧ y ≤ 255) (hs : (joined ps).length ≤ 900000) (hn : ps.length ≤ 900000) (H : HH B wb w0 L0) : Calls Try.prog 20 #[.slice A ps.length c, .slice none 0 0] w0 fun e w' => ∃ go co, e = .returned (.slice (some ⟨go, 0, none⟩) (sum (joined ps)).length co) ∧ RB w' go 0 (sum (joined ps)) ∧ (sum (joined ps)).length ≤ co ∧ HH B wb w' L0 := by
  refine c_enter (args := [.slice A ps.length c, .slice none 0 0]) (k := 20) Try.func20 rfl rfl rfl (fun a S => ?_)
  refine wp_seq ?_
  refine c_region ?_
  refine l_pure S (p_assign rfl) rfl rfl rfl ?_; clear S a; intro a S
  refine l_nil ?_
  refine e_then ?_
  refine wp_seq ?_
  refine c_region ?_
  have hcon := im.new_calls B wb _ L0 H
  refine l_call S rfl rfl Try.func31 rfl rfl (hcon) rfl rfl rfl ?_
  rintro e w ⟨gd, rfl, hH⟩
  refine ⟨_, rfl, ?_⟩; clear S a; intro a S
  rw [dgD_nil] at hH
  clear H; have H : HH B wb w ((gd, .cells (dgD (joined (ps.take 0)) (List.replicate 64 0)).toArray 114 (0, 0)) :: L0) := hH; clear hH hcon
  refine l_pure S (p_assign rfl) rfl rfl rfl ?_; clear S a; intro a S
  refine l_nil ?_
  refine e_then ?_
  refine wp_seq ?_
  refine wp_seq ?_
  refine c_region ?_
  refine l_pure S (p_move rfl) rfl rfl rfl ?_; clear S a; intro a S
  refine l_pure S (p_len Try.underlying51 rfl) rfl rfl rfl ?_; clear S a; intro a S
  refine l_pure S (p_move rfl) rfl rfl rfl ?_; clear S a; intro a S
  refine l_nil ?_
  refine e_then ?_
  refine wp_block ?_
  refine c_loop (σ := Nat × List Int) (fun s_ a w => match s_ with | ⟨j, x⟩ => SL a 22 [] [(1, .slice none 0 0), (5, .pointer (some ⟨gd, 0, none⟩)), (9, .slice A ps.length c), (10, .int .i64 (ps.length : Int)), (11, .int .i64 (j : Int))] ∧ HH (B) wb w ((gd, .cells (dgD (joined (ps.take j)) x).toArray 114 (0, 0)) :: L0) ∧ (j ≤ ps.length ∧ OkX (joined (ps.take j)) x)) (fun s_ => match s_ with | ⟨j, x⟩ => ps.length - j) ⟨0, List.replicate 64 0⟩ ⟨S.only ⟨rfl, rfl, rfl, rfl, rfl, trivial⟩, H, ⟨Nat.zero_le _, ok_nil⟩⟩ ?_
  clear S a H; rintro ⟨j, x⟩ a w ⟨S, H, hinv⟩
  obtain ⟨hj, ok⟩ := hinv
  refine wp_seq ?_
  refine c_region ?_
  refine l_pure S (p_lss rfl rfl) rfl rfl rfl ?_; clear S a; intro a S
  refine l_nil ?_
  refine e_then ?_
  refine wp_seq ?_
  refine c_cond S rfl (fun c2 => ?_) (fun c2 => ?_)
  · skip
    have c2 := of_decide_eq_true c2
    refine wp_skip ?_
    refine e_then ?_
    refine wp_seq ?_
    refine wp_block ?_
    refine wp_seq ?_
    refine c_region ?_
    obtain ⟨gr, csr, er, fr, gp, cp, csp, ep, fp, rfl, hm1, hcr, hm2, hpc, hrow⟩ := hps j (ps.getD j []) (get_some [] (by omega))
    have hj1 := joined_succ (get_some [] (show j < ps.length by omega))
    have hle := joined_le ps (j + 1)
    rw [hj1, List.length_append] at hle
    refine l_pure S (p_indexAddr rfl rfl (fun w => ia_slice Try.underlying51 sz52 (by omega) (by omega))) rfl rfl rfl ?_; clear S a; intro a S
    refine l_read S H (r_load (j := 0 + (j : Int).toNat * 1) rfl (List.mem_cons_of_mem _ hm1) (show csr[0 + (j : Int).toNat * 1]? = _ from by rw [show 0 + (j : Int).toNat * 1 = j by omega]; exact hcr) (fun w hc => ld1 ag52 hc)) rfl rfl rfl ?_; clear S a; intro a S
    refine l_pure S (p_assign rfl) rfl rfl rfl ?_; clear S a; intro a S
    refine l_nil ?_
    refine e_then ?_
    refine c_region ?_
    refine l_pure S (p_move rfl) rfl rfl rfl ?_; clear S a; intro a S
    refine l_pure S (p_move rfl) rfl rfl rfl ?_; clear S a; intro a S
    have hcon := wr.write_calls B wb w L0 gd (joined (ps.take j)) x ok gp 0 cp (ps.getD j []) csp ep fp (hby _ (List.mem_of_getElem? (get_some [] (by omega)))) H hm2 (fun i v hi => by rw [Nat.zero_add]; exact hrow i v hi) hpc (by omega)
    refine l_call S rfl rfl Try.func32 rfl rfl (hcon) rfl rfl rfl ?_
    rintro e w ⟨rfl, x', ok', hH⟩
    refine ⟨_, rfl, ?_⟩; clear S a; intro a S
    rw [← hj1] at ok' hH
    clear H; have H := hH; clear hH hcon
    refine l_nil ?_
    refine e_in 1 ?_
    refine e_then ?_
    refine c_region ?_
    refine l_pure S (p_add rfl rfl (nat_add (x := j) (y := 1) (by omega))) rfl rfl rfl ?_; clear S a; intro a S
    refine l_pure S (p_move rfl) rfl rfl rfl ?_; clear S a; intro a S
    refine l_nil ?_
    refine e_then ?_
    exact ⟨⟨j + 1, x'⟩, ⟨S.only ⟨rfl, rfl, rfl, rfl, rfl, trivial⟩, H, ⟨by omega, ok'⟩⟩, by show ps.length - (j + 1) < ps.length - j; omega⟩
  · skip
    have c2 := of_decide_eq_false c2
    refine wp_exit ?_
    refine e_then_exit ?_
    refine e_then_exit ?_
    refine e_in_exit ?_
    refine e_then ?_
    refine wp_seq ?_
    refine c_region ?_
    refine l_pure S (p_move rfl) rfl rfl rfl ?_; clear S a; intro a S
    refine l_pure S (p_move rfl) rfl rfl rfl ?_; clear S a; intro a S
    obtain rfl : j = ps.length := by omega
    rw [List.take_of_length_le (Nat.le_refl _)] at H ok
    have hcon := sum_calls B wb w L0 gd (joined ps) x ok (by omega) H
    refine l_call S rfl rfl Try.func33 rfl rfl (hcon) rfl rfl rfl ?_
    rintro e w ⟨go, co, rfl, hrb, hco, hH⟩
    refine ⟨_, rfl, ?_⟩; clear S a; intro a S
    clear H; have H := hH; clear hH hcon
    refine l_pure S (p_assign rfl) rfl rfl rfl ?_; clear S a; intro a S
    refine l_nil ?_
    refine e_then ?_
    refine wp_ret ?_
    exact r_ret1 S rfl rfl ⟨go, co, rfl, hrb, hco, H⟩
end pc
end Go.Proofs.Ytnmelglnkefjfaa.sha
