/- A raw message, taken off. -/
import Derived.Test.YtnmelglnkefjfaaDoorRa1
import Derived.Test.YtnmelglnkefjfaaDoorRd1
namespace Go.Proofs.YtnmelglnkefjfaaDoor.rr
open Go.RowKit Go.Proofs.HHW Go.Proofs.YtnmelglnkefjfaaDoorW.PrintWords
set_option linter.unusedVariables false
set_option linter.unusedSimpArgs false
namespace ru
theorem ag5 : aggB Tryd.prog 5 = some false := by kernel_rfl
theorem ag62 : aggB Tryd.prog 62 = some false := by kernel_rfl
theorem sz5 : szB Tryd.prog 5 = some 1 := by kernel_rfl
theorem sz62 : szB Tryd.prog 62 = some 1 := by kernel_rfl
theorem in5 : (Tryd.prog.info? 5).map (fun i => (i.zero, i.size, i.bytes)) = some (some (.int .u8 0), 1, 1) := by kernel_rfl
theorem mi49 : Tryd.prog.underlying 49 = some (.interface (Tryd.prog.methodsAt 49)) := by kernel_rfl
theorem meRS (w : World) (ad : Addr) : (method (Tryd.prog.types.size + Made.depth) 102 (.pointer (some ad)) "ReadSlice").run Tryd.prog w = .ok (126, .pointer (some ad)) w := by kernel_rfl
def UP (wb : World) (L0 : dc.Bk) (g gb gr grm : Nat) (Az : Option Addr) (zs : List Int) (cz ap : Nat) (l Y : List Int) (res : Option (Option Nat)) (e : Ending) (w' : World) : Prop :=
  (res = some none ∧ ∃ (q : Addr) (r' : Nat) (v' : List Int) (s' : ByteArray) (ap' : Nat) (cs' : Array Value) (lb' lr' : Int), e = .returned (.iface 143 (.pointer (some q))) ∧ r' + v'.length ≤ 4096 ∧ s'.size ≤ 1000000 ∧ HH wb.heap.size wb w' ((g, .cells #[.slice (some ⟨gb, 0, none⟩) 4096 4096, .iface 42 (.pointer (some ⟨gr, 0, none⟩)), .int .i64 (r' : Int), .int .i64 ((r' + v'.length : Nat) : Int), .nilIface, .int .i64 lb', .int .i64 lr'] 153 (0, 0)) :: (gb, .cells cs' 5 (0, 0)) :: (gr, .cells #[.string s', .slice Az zs.length cz, .int .i64 (ap' : Int), .bool false] 86 (0, 0)) :: L0)) ∨
  (∃ (cc : Nat), res = some (some cc) ∧ cc ≤ Y.length ∧ e = .returned .nilIface ∧ ∃ (A' : Option Addr) (c' : Nat) (ow' : dc.Bk) (cs' : Array Value) (r' : Nat) (s' : ByteArray) (ap' : Nat) (lb' lr' : Int), OwnB 5 (.slice A' (l ++ Y.take cc).length c') (l ++ Y.take cc) ow' ∧ cs'.size = 4096 ∧ bf.Row cs' r' (Y.drop cc) ∧ r' + (Y.drop cc).length ≤ 4096 ∧ s'.size = 0 ∧ ap' ≤ ap + 200 * cc ∧ HH wb.heap.size wb w' ((g, .cells #[.slice (some ⟨gb, 0, none⟩) 4096 4096, .iface 42 (.pointer (some ⟨gr, 0, none⟩)), .int .i64 (r' : Int), .int .i64 ((r' + (Y.drop cc).length : Nat) : Int), .nilIface, .int .i64 lb', .int .i64 lr'] 153 (0, 0)) :: (gb, .cells cs' 5 (0, 0)) :: (gr, .cells #[.string s', .slice Az zs.length cz, .int .i64 (ap' : Int), .bool false] 86 (0, 0)) :: (grm, .cells #[.slice A' (l ++ Y.take cc).length c'] 62 (0, 0)) :: (ow' ++ L0)))
def UMC (k : Nat) : Prop := ∀ (wb w0 : World) (L0 : dc.Bk) (g gb gr grm : Nat) (cs : Array Value) (r : Nat) (vis : List Int) (s : ByteArray) (Az : Option Addr) (zs : List Int) (cz ap : Nat) (lb lr : Int) (A : Option Addr) (c : Nat) (l Y : List Int) (ow : dc.Bk) (ae : Addr) (hE : wb.cell? ⟨0, 0, none⟩ = some (.iface 143 (.pointer (some ae)))) (hlt : 0 < wb.heap.size) (qe : Addr) (hU : wb.cell? ⟨1, 0, none⟩ = some (.iface 143 (.pointer (some qe)))) (hltU : 1 < wb.heap.size) (H : HH wb.heap.size wb w0 ((g, .cells #[.slice (some ⟨gb, 0, none⟩) 4096 4096, .iface 42 (.pointer (some ⟨gr, 0, none⟩)), .int .i64 (r : Int), .int .i64 ((r + vis.length : Nat) : Int), .nilIface, .int .i64 lb, .int .i64 lr] 153 (0, 0)) :: (gb, .cells cs 5 (0, 0)) :: (gr, .cells #[.string s, .slice Az zs.length cz, .int .i64 (ap : Int), .bool false] 86 (0, 0)) :: (grm, .cells #[.slice A l.length c] 62 (0, 0)) :: (ow ++ L0))) (hcs : cs.size = 4096) (hrow : bf.Row cs r vis) (hw : r + vis.length ≤ 4096) (hC : (Kd.int .i64).C wb Az zs.length zs) (hzs : zs = []) (ha : ap + 200 * Y.length ≤ 900000000000) (hfit : vis.length + s.size ≤ 2000) (hst : vis = [] ∨ s.size = 0) (hbr : ∀ x ∈ Y, 0 ≤ x ∧ x ≤ 255) (hY : vis ++ ints s = Y) (hown : OwnB 5 (.slice A l.length c) l ow) (hl : l.length + Y.length ≤ 2000), rp.raw k Y ≠ none → Calls Tryd.prog 39 #[.pointer (some ⟨grm, 0, none⟩), .iface 102 (.pointer (some ⟨g, 0, none⟩))] w0 (UP wb L0 g gb gr grm Az zs cz ap l Y (rp.raw k Y))

set_option maxHeartbeats 4000000 in
theorem um_step (k : Nat) (ih : UMC k) : UMC (k + 1) := by
  intro wb w0 L0 g gb gr grm cs r vis s Az zs cz ap lb lr A c l Y ow ae hE hlt qe hU hltU H hcs hrow hw hC hzs ha hfit hst hbr hY hown hl hne
  refine c_enter (args := [.pointer (some ⟨grm, 0, none⟩), .iface 102 (.pointer (some ⟨g, 0, none⟩))]) (k := 130) Tryd.func39 rfl rfl rfl (fun a S => ?_)
  refine wp_seq ?_
  refine c_region ?_
  refine l_pure S (p_assign rfl) rfl rfl rfl ?_; clear S a; intro a S
  refine l_nil ?_
  refine e_then ?_
  refine wp_seq ?_
  refine c_region ?_
  refine l_pure S (p_move rfl) rfl rfl rfl ?_; clear S a; intro a S
  have hcon := ra.readSlice_ wb _ _ g gb gr cs r vis s Az zs cz ap lb lr ae hE hlt H hcs hrow hw hC hzs (by omega) hfit hst (by rw [hY]; exact hbr)
  rw [hY] at hcon
  refine l_invoke S rfl rfl rfl (meRS _ _) Tryd.func126 rfl rfl hcon rfl rfl rfl ?_
  rintro e w ⟨cs1, ap1, lb1, lr1, s1, hcs1, hap1, hs1, ⟨hfi, v, rfl, r1, hr1, hH⟩ | ⟨j, r1, cap, hfi, rfl, hcap, hrow1, hrow2, hw2, hH⟩⟩
  · skip
    refine ⟨_, rfl, ?_⟩; clear S a; intro a S; clear H hcon; have H := hH; clear hH
    refine l_pure S (p_move rfl) rfl rfl rfl ?_; clear S a; intro a S
    refine l_pure S (p_extract rfl rfl) rfl rfl rfl ?_; clear S a; intro a S
    refine l_pure S (p_extract rfl rfl) rfl rfl rfl ?_; clear S a; intro a S
    refine l_pure S (p_assign rfl) rfl rfl rfl ?_; clear S a; intro a S
    refine l_pure S (p_assign rfl) rfl rfl rfl ?_; clear S a; intro a S
    refine l_nil ?_
    refine e_then ?_
    refine wp_seq ?_
    refine wp_seq ?_
    refine c_region ?_
    refine l_pure S (p_move rfl) rfl rfl rfl ?_; clear S a; intro a S
    refine l_pure S (p_ifnilN mi49 rfl rfl) rfl rfl rfl ?_; clear S a; intro a S
    refine l_nil ?_
    refine e_then ?_
    refine c_cond (b := true) S rfl (fun _ => ?_) (fun h => by cases h)
    refine wp_seq ?_
    refine c_region ?_
    refine l_pure S (p_move rfl) rfl rfl rfl ?_; clear S a; intro a S
    refine l_pure S (p_assign rfl) rfl rfl rfl ?_; clear S a; intro a S
    refine l_nil ?_
    refine e_then ?_
    refine wp_ret ?_
    refine e_then_ret ?_
    exact r_ret1 S rfl rfl (.inl ⟨rp.raw_none hfi, _, r1, [], s1, _, _, _, _, rfl, by simpa using hr1, by omega, H.dropOwn⟩)
  · skip
    refine ⟨_, rfl, ?_⟩; clear S a; intro a S; clear H hcon; have H := hH; clear hH
    have hj : j < Y.length := (rp.fi_some.1 hfi).1
    have hlen : j + 1 = (Y.take (j + 1)).length := by rw [List.length_take]; omega
    rw [hlen] at S
    refine l_pure S (p_move rfl) rfl rfl rfl ?_; clear S a; intro a S
    refine l_pure S (p_extract rfl rfl) rfl rfl rfl ?_; clear S a; intro a S
    refine l_pure S (p_extract rfl rfl) rfl rfl rfl ?_; clear S a; intro a S
    refine l_pure S (p_assign rfl) rfl rfl rfl ?_; clear S a; intro a S
    refine l_pure S (p_assign rfl) rfl rfl rfl ?_; clear S a; intro a S
    refine l_nil ?_
    refine e_then ?_
    refine wp_seq ?_
    refine wp_seq ?_
    refine c_region ?_
    refine l_pure S (p_move rfl) rfl rfl rfl ?_; clear S a; intro a S
    refine l_pure S (p_nilnilN mi49 rfl) rfl rfl rfl ?_; clear S a; intro a S
    refine l_nil ?_
    refine e_then ?_
    refine c_cond (b := false) S rfl (fun h => by cases h) (fun _ => ?_)
    refine wp_skip ?_
    refine e_then ?_
    refine wp_seq ?_
    refine c_region ?_
    refine l_pure S (p_move rfl) rfl rfl rfl ?_; clear S a; intro a S
    refine l_pure S (p_move rfl) rfl rfl rfl ?_; clear S a; intro a S
    refine l_pure S (p_nilCheck rfl) rfl rfl rfl ?_; clear S a; intro a S
    refine l_read S H (r_load rfl (List.mem_cons_of_mem _ (List.mem_cons_of_mem _ (List.mem_cons_of_mem _ List.mem_cons_self))) rfl (fun w hc => ld1 ag62 hc)) rfl rfl rfl ?_; clear S a; intro a S
    refine l_pure S (p_move rfl) rfl rfl rfl ?_; clear S a; intro a S
    refine l_ownB [_, _, _, _] (l := l) (r := Y.take (j + 1)) S H rfl rfl rfl hown (src_rb (rp.row_rb H (List.mem_cons_of_mem _ List.mem_cons_self) hrow1) Tryd.underlying55) Tryd.underlying62 in5 rfl (by omega) (by decide) rfl rfl rfl ?_; clear S a H; intro A1 c1 ow1 w a hown1 H S
    replace H : HH _ _ _ (_ :: _ :: _ :: _ :: (ow1 ++ L0)) := H
    refine l_pure S (p_nilCheck rfl) rfl rfl rfl ?_; clear S a; intro a S
    refine l_store S H rfl rfl rfl (.there (.there (.there .here))) (by first | decide | simp [Value.cells]) (fun w u hc hz => st1 sz62 rfl hc hz) rfl rfl ?_; clear S a H; intro w a H S
    refine l_nil ?_
    refine e_then ?_
    refine wp_seq ?_
    refine wp_seq ?_
    refine c_region ?_
    refine l_pure S (p_move rfl) rfl rfl rfl ?_; clear S a; intro a S
    refine l_pure S (p_len Tryd.underlying55 rfl) rfl rfl rfl ?_; clear S a; intro a S
    refine l_pure S (p_lss rfl rfl) rfl rfl rfl ?_; clear S a; intro a S
    refine l_nil ?_
    refine e_then ?_
    refine c_cond S rfl (fun bc6 => ?_) (fun bc6 => ?_)
    · skip
      have c6 := bc6
      have c6 := of_decide_eq_true c6
      refine wp_seq ?_
      refine c_region ?_
      have hcon := re.new_ _ _ _ _ (⟨#[109, 97, 108, 102, 111, 114, 109, 101, 100, 32, 100, 97, 116, 97, 32, 114, 101, 97, 100]⟩) H
      refine l_call S rfl rfl Tryd.func52 rfl rfl (hcon) rfl rfl rfl ?_
      rintro e w ⟨q, rfl, hH⟩
      refine ⟨_, rfl, ?_⟩; clear S a; intro a S
      clear H hcon; have H := hH; clear hH
      refine l_pure S (p_assign rfl) rfl rfl rfl ?_; clear S a; intro a S
      refine l_nil ?_
      refine e_then ?_
      refine wp_ret ?_
      refine e_then_ret ?_
      exact r_ret1 S rfl rfl (.inl ⟨rp.raw_short hfi (by omega), q, _, Y.drop (j + 1), s1, _, _, _, _, rfl, hw2, by omega, H.dropOwn⟩)
    · skip
      have c6 := bc6
      have c6 := of_decide_eq_false c6
      refine wp_skip ?_
      refine e_then ?_
      refine wp_seq ?_
      refine c_region ?_
      refine l_pure S (p_move rfl) rfl rfl rfl ?_; clear S a; intro a S
      refine l_pure S (p_move rfl) rfl rfl rfl ?_; clear S a; intro a S
      refine l_pure S (p_len Tryd.underlying55 rfl) rfl rfl rfl ?_; clear S a; intro a S
      refine l_pure S (p_sub rfl rfl (nat_sub (x := ((Y.take (j + 1)).length)) (y := 2) (by omega) (by omega))) rfl rfl rfl ?_; clear S a; intro a S
      have hj2 : 2 ≤ j := by omega
      have hcr : Y.getD (j - 1) 0 = 13 := Classical.byContradiction fun h => hne (rp.raw_cr hfi hj2 h)
      refine l_pure S (p_slice rfl (o_some rfl) (o_some rfl) (fun _ _ => o_none) (fun w => sl_byte (m := 1) (h := (Y.take (j + 1)).length - 2) Tryd.underlying55 sz5 rfl rfl (by omega) (by omega) (by omega))) rfl rfl rfl ?_; clear S a; intro a S
      rw [rp.body_cut hj2 hj] at S
      have hbrow := rp.row_body hrow1 hj2 hj hcap
      have hblen := rp.body_len hj2 hj
      have hk0 := rp.row_get (i := 0) hrow1 (by omega)
      rw [rp.take_getD (by omega)] at hk0
      have hB := rp.raw_B (k := k) hfi hj2 hcr
      have hne2 := hne
      rw [hB] at hne2
      generalize (Y.take (j - 1)).drop 1 = b at S hbrow hblen hB hne2
      generalize Y.getD 0 0 = kd at hk0 hB hne2
      generalize hR : Y.drop (j + 1) = R at *
      have hRl : R.length = Y.length - (j + 1) := by rw [← hR, List.length_drop]
      refine l_pure S (p_assign rfl) rfl rfl rfl ?_; clear S a; intro a S
      refine l_nil ?_
      refine e_then ?_
      refine wp_seq ?_
      refine c_region ?_
      refine l_pure S (p_move rfl) rfl rfl rfl ?_; clear S a; intro a S
      refine l_pure S (p_indexAddr rfl rfl (fun w => ia_slice Tryd.underlying55 sz5 (by omega) (by omega))) rfl rfl rfl ?_; clear S a; intro a S
      refine l_read S H (r_load (v := .int .u8 kd) rfl (List.mem_cons_of_mem _ List.mem_cons_self) (by simpa using hk0) (fun w hc => ld1 ag5 hc)) rfl rfl rfl ?_; clear S a; intro a S
      refine l_pure S (p_assign rfl) rfl rfl rfl ?_; clear S a; intro a S
      refine l_nil ?_
      refine e_then ?_
      refine wp_seq ?_
      refine c_region ?_
      refine l_pure S (p_move rfl) rfl rfl rfl ?_; clear S a; intro a S
      refine l_nil ?_
      refine e_then ?_
      refine wp_block ?_
      refine c_cut (fun a w => ∃ bm : Bool, SL a 132 [] [(0, .pointer (some ⟨grm, 0, none⟩)), (1, .iface 102 (.pointer (some ⟨g, 0, none⟩))), (7, .slice (some ⟨gb, offAt r1 cap 1, none⟩) b.length (cap - 1)), (8, .int .u8 kd), (42, .int .u8 kd), (44, .bool bm)] ∧ HH (wb.heap.size) wb w ((g, .cells #[.slice (some ⟨gb, 0, none⟩) 4096 4096, .iface 42 (.pointer (some ⟨gr, 0, none⟩)), .int .i64 ((r1 + (j + 1) : Nat) : Int), .int .i64 ((r1 + (j + 1) + R.length : Nat) : Int), .nilIface, .int .i64 lb1, .int .i64 lr1] 153 (0, 0)) :: (gb, .cells cs1 5 (0, 0)) :: (gr, .cells #[.string s1, .slice Az zs.length cz, .int .i64 (ap1 : Int), .bool false] 86 (0, 0)) :: (grm, .cells #[.slice A1 (l ++ Y.take (j + 1)).length c1] 62 (0, 0)) :: (ow1 ++ L0)) ∧ bm = decide (rp.many kd ≠ 0)) ?_ ?_
      · clear S a H; rintro a w ⟨bm, S, H, hinv⟩
        refine c_cond S rfl (fun bc7 => ?_) (fun bc7 => ?_)
        · skip
          have c7 := bc7
          have hmk : rp.many kd ≠ 0 := of_decide_eq_true (hinv ▸ c7)
          have hbn : b ≠ [] := fun h => hne2 (rp.B_empty (rp.many_nl hmk) (fun h2 => hmk h2.1) ⟨h, .inl hmk⟩)
          have hb1 : 0 < b.length := List.length_pos_iff.2 hbn
          refine wp_seq ?_
          refine wp_seq ?_
          refine c_region ?_
          refine l_pure S (p_move rfl) rfl rfl rfl ?_; clear S a; intro a S
          refine l_pure S (p_indexAddr rfl rfl (fun w => ia_slice Tryd.underlying55 sz5 (by omega) (by omega))) rfl rfl rfl ?_; clear S a; intro a S
          refine l_read S H (r_load (v := .int .u8 (b.getD 0 0)) rfl (List.mem_cons_of_mem _ List.mem_cons_self) (by simpa using (rp.row_get (i := 0) hbrow (by omega))) (fun w hc => ld1 ag5 hc)) rfl rfl rfl ?_; clear S a; intro a S
          refine l_pure S (p_eql rfl rfl) rfl rfl rfl ?_; clear S a; intro a S
          refine l_nil ?_
          refine e_then ?_
          refine c_cond S rfl (fun bc9 => ?_) (fun bc9 => ?_)
          · skip
            have c9 := bc9
            have c9 := eq_of_beq c9
            refine wp_seq ?_
            refine c_region ?_
            refine l_pure S (p_assign rfl) rfl rfl rfl ?_; clear S a; intro a S
            refine l_nil ?_
            refine e_then ?_
            refine wp_ret ?_
            refine e_then_ret ?_
            refine e_in_ret ?_
            exact r_ret1 S rfl rfl (.inr ⟨(j + 1), hB.trans (rp.B_q (rp.many_nl hmk) (fun h2 => hmk h2.1) (fun h2 => hbn h2.1) ⟨.inl hmk, by omega⟩), by omega, rfl, _, _, ow1, cs1, _, s1, ap1, _, _, hown1, hcs1, by rw [hR]; exact hrow2, by rw [hR]; exact hw2, hs1, by omega, by rw [hR]; exact H⟩)
          · skip
            have c9 := bc9
            have c9 := ne_of_beq_false c9
            have hnt : rp.NT kd b := rp.NT_many hmk hbn (by omega)
            refine wp_skip ?_
            refine e_then ?_
            refine wp_seq ?_
            refine c_region ?_
            refine l_pure S (p_move rfl) rfl rfl rfl ?_; clear S a; intro a S
            have hcon := re.pi_ w gb (offAt r1 cap 1) (cap - 1) b (rp.row_rb H (List.mem_cons_of_mem _ List.mem_cons_self) hbrow) (by omega) (by omega)
            refine l_call S rfl rfl Tryd.func53 rfl rfl hcon rfl rfl rfl ?_
            rintro e w ⟨hH, ⟨h1, n, rfl, hn⟩ | ⟨h1, q, rfl⟩⟩
            · skip
              refine ⟨_, rfl, ?_⟩; clear S a; intro a S; clear hcon; replace H := H.join hH; clear hH; rw [List.nil_append] at H
              obtain ⟨h18, hsz, hn1, hn2⟩ := rp.size_ok h1 (fun h => hne2 (rp.B_odd hnt h))
              rw [← hn h18] at hsz hn1 hn2
              refine l_pure S (p_move rfl) rfl rfl rfl ?_; clear S a; intro a S
              refine l_pure S (p_extract rfl rfl) rfl rfl rfl ?_; clear S a; intro a S
              refine l_pure S (p_extract rfl rfl) rfl rfl rfl ?_; clear S a; intro a S
              refine l_pure S (p_assign rfl) rfl rfl rfl ?_; clear S a; intro a S
              refine l_pure S (p_assign rfl) rfl rfl rfl ?_; clear S a; intro a S
              refine l_nil ?_
              refine e_then ?_
              refine wp_seq ?_
              refine wp_seq ?_
              refine c_region ?_
              refine l_pure S (p_move rfl) rfl rfl rfl ?_; clear S a; intro a S
              refine l_pure S (p_nilnilN mi49 rfl) rfl rfl rfl ?_; clear S a; intro a S
              refine l_nil ?_
              refine e_then ?_
              refine c_cond (b := false) S rfl (fun h => by cases h) (fun _ => ?_)
              refine wp_seq ?_
              refine c_region ?_
              refine l_pure S (p_move rfl) rfl rfl rfl ?_; clear S a; intro a S
              refine l_pure S (p_eql rfl rfl) rfl rfl rfl ?_; clear S a; intro a S
              refine l_nil ?_
              refine e_then ?_
              refine c_cond S rfl (fun bc13 => ?_) (fun bc13 => ?_)
              · skip
                have c13 := bc13
                have c13 := eq_of_beq c13
                refine wp_seq ?_
                refine c_region ?_
                refine l_pure S (p_assign rfl) rfl rfl rfl ?_; clear S a; intro a S
                refine l_nil ?_
                refine e_then ?_
                refine wp_ret ?_
                refine e_then_ret ?_
                refine e_in_ret ?_
                exact r_ret1 S rfl rfl (.inr ⟨(j + 1), hB.trans (rp.B_stop hnt hsz (by omega)), by omega, rfl, _, _, ow1, cs1, _, s1, ap1, _, _, hown1, hcs1, by rw [hR]; exact hrow2, by rw [hR]; exact hw2, hs1, by omega, by rw [hR]; exact H⟩)
              · skip
                have c13 := bc13
                have c13 := ne_of_beq_false c13
                obtain ⟨m, rfl⟩ := Int.eq_ofNat_of_zero_le (show 0 ≤ n by omega)
                refine wp_skip ?_
                refine e_then ?_
                refine c_cut (fun a w => ∃ N : Nat, SL a 132 [] [(0, .pointer (some ⟨grm, 0, none⟩)), (1, .iface 102 (.pointer (some ⟨g, 0, none⟩))), (9, .int .i64 (N : Int))] ∧ HH (wb.heap.size) wb w ((g, .cells #[.slice (some ⟨gb, 0, none⟩) 4096 4096, .iface 42 (.pointer (some ⟨gr, 0, none⟩)), .int .i64 ((r1 + (j + 1) : Nat) : Int), .int .i64 ((r1 + (j + 1) + R.length : Nat) : Int), .nilIface, .int .i64 lb1, .int .i64 lr1] 153 (0, 0)) :: (gb, .cells cs1 5 (0, 0)) :: (gr, .cells #[.string s1, .slice Az zs.length cz, .int .i64 (ap1 : Int), .bool false] 86 (0, 0)) :: (grm, .cells #[.slice A1 (l ++ Y.take (j + 1)).length c1] 62 (0, 0)) :: (ow1 ++ L0)) ∧ N = m * rp.many kd) ?_ ?_
                · clear S a H; rintro a w ⟨N, S, H, hinv⟩
                  have hN := hinv
                  have hNb : N ≤ m * 2 := hN ▸ Nat.mul_le_mul_left _ (rp.many_pos hmk).2
                  have hMne : rp.manyR (rp.raw k) N R ≠ none := fun h => hne2 (rp.B_many hnt hsz (rp.many_ns hmk) hmk (hN ▸ h))
                  refine wp_seq ?_
                  refine wp_seq ?_
                  refine c_region ?_
                  refine l_pure S (p_assign rfl) rfl rfl rfl ?_; clear S a; intro a S
                  refine l_nil ?_
                  refine e_then ?_
                  refine wp_block ?_
                  refine c_loop (σ := Nat × Nat × Option Addr × Nat × dc.Bk × Array Value × Nat × ByteArray × Nat × Int × Int) (fun s_ a w => match s_ with | ⟨i, c2, A2, k2, ow2, cs2, r2, s2, ap2, lb2, lr2⟩ => SL a 132 [] [(0, .pointer (some ⟨grm, 0, none⟩)), (1, .iface 102 (.pointer (some ⟨g, 0, none⟩))), (9, .int .i64 (N : Int)), (11, .int .i64 (i : Int))] ∧ HH (wb.heap.size) wb w ((g, .cells #[.slice (some ⟨gb, 0, none⟩) 4096 4096, .iface 42 (.pointer (some ⟨gr, 0, none⟩)), .int .i64 (r2 : Int), .int .i64 ((r2 + (R.drop c2).length : Nat) : Int), .nilIface, .int .i64 lb2, .int .i64 lr2] 153 (0, 0)) :: (gb, .cells cs2 5 (0, 0)) :: (gr, .cells #[.string s2, .slice Az zs.length cz, .int .i64 (ap2 : Int), .bool false] 86 (0, 0)) :: (grm, .cells #[.slice A2 (l ++ Y.take (j + 1 + c2)).length k2] 62 (0, 0)) :: (ow2 ++ L0)) ∧ (i ≤ N ∧ c2 ≤ R.length ∧ OwnB 5 (.slice A2 (l ++ Y.take (j + 1 + c2)).length k2) (l ++ Y.take (j + 1 + c2)) ow2 ∧ cs2.size = 4096 ∧ bf.Row cs2 r2 (R.drop c2) ∧ r2 + (R.drop c2).length ≤ 4096 ∧ s2.size = 0 ∧ ap2 ≤ ap + 200 * (j + 1 + c2) ∧ rp.manyR (rp.raw k) N R = (rp.manyR (rp.raw k) (N - i) (R.drop c2)).map (Option.map (c2 + ·)))) (fun s_ => match s_ with | ⟨i, c2, A2, k2, ow2, cs2, r2, s2, ap2, lb2, lr2⟩ => N - i) ⟨0, 0, A1, c1, ow1, cs1, r1 + (j + 1), s1, ap1, lb1, lr1⟩ ⟨S.only ⟨rfl, rfl, rfl, rfl, trivial⟩, H, ⟨Nat.zero_le _, Nat.zero_le _, hown1, hcs1, by rw [List.drop_zero]; exact hrow2, by rw [List.drop_zero]; exact hw2, hs1, by omega, by rw [Nat.sub_zero, List.drop_zero]; cases rp.manyR (rp.raw k) N R with | none => rfl | some x => cases x <;> simp⟩⟩ ?_
                  clear S a H; rintro ⟨i, c2, A2, k2, ow2, cs2, r2, s2, ap2, lb2, lr2⟩ a w ⟨S, H, hinv⟩
                  obtain ⟨hi, hc2, hown2, hcs2, hrow3, hw3, hs2, hap2, hM⟩ := hinv
                  refine wp_seq ?_
                  refine wp_seq ?_
                  refine c_region ?_
                  refine l_pure S (p_move rfl) rfl rfl rfl ?_; clear S a; intro a S
                  refine l_pure S (p_move rfl) rfl rfl rfl ?_; clear S a; intro a S
                  refine l_pure S (p_lss rfl rfl) rfl rfl rfl ?_; clear S a; intro a S
                  refine l_nil ?_
                  refine e_then ?_
                  refine c_cond S rfl (fun bc15 => ?_) (fun bc15 => ?_)
                  · skip
                    have c15 := bc15
                    have c15 := of_decide_eq_true c15
                    refine wp_skip ?_
                    refine e_then ?_
                    refine wp_seq ?_
                    refine wp_block ?_
                    refine wp_seq ?_
                    refine c_region ?_
                    refine l_pure S (p_move rfl) rfl rfl rfl ?_; clear S a; intro a S
                    refine l_pure S (p_move rfl) rfl rfl rfl ?_; clear S a; intro a S
                    have hrl : (R.drop c2).length = R.length - c2 := List.length_drop
                    have hll : (l ++ Y.take (j + 1 + c2)).length = l.length + (j + 1 + c2) := by rw [List.length_append, List.length_take]; omega
                    have hcon := ih wb _ L0 g gb gr grm cs2 r2 (R.drop c2) s2 Az zs cz ap2 lb2 lr2 A2 k2 (l ++ Y.take (j + 1 + c2)) (R.drop c2) ow2 ae hE hlt qe hU hltU H hcs2 hrow3 hw3 hC hzs (by omega) (by omega) (.inr hs2) (fun x hx => hbr x (List.mem_of_mem_drop (hR ▸ List.mem_of_mem_drop hx))) (by rw [rp.ints_nil.2 hs2, List.append_nil]) hown2 (by omega) (fun h => hMne (rp.many_odd (by omega) hM h))
                    refine l_call S rfl rfl Tryd.func39 rfl rfl hcon rfl rfl rfl ?_
                    rintro e w (⟨hr, q, r3, v3, s3, ap3, cs3, lb3, lr3, rfl, hq1, hq2, hH⟩ | ⟨c3, hr, hc3, rfl, A3, k3, ow3, cs3, r3, s3, ap3, lb3, lr3, hown3, hcs3, hrow4, hw4, hs3, hap3, hH⟩)
                    · skip
                      refine ⟨_, rfl, ?_⟩; clear S a; intro a S; clear H hcon; have H := hH; clear hH
                      refine l_pure S (p_assign rfl) rfl rfl rfl ?_; clear S a; intro a S
                      refine l_nil ?_
                      refine e_then ?_
                      refine wp_seq ?_
                      refine c_region ?_
                      refine l_pure S (p_move rfl) rfl rfl rfl ?_; clear S a; intro a S
                      refine l_pure S (p_ifnilN mi49 rfl rfl) rfl rfl rfl ?_; clear S a; intro a S
                      refine l_nil ?_
                      refine e_then ?_
                      refine c_cond (b := true) S rfl (fun _ => ?_) (fun h => by cases h)
                      refine wp_seq ?_
                      refine c_region ?_
                      refine l_pure S (p_move rfl) rfl rfl rfl ?_; clear S a; intro a S
                      refine l_pure S (p_assign rfl) rfl rfl rfl ?_; clear S a; intro a S
                      refine l_nil ?_
                      refine e_then ?_
                      refine wp_ret ?_
                      refine e_in_ret ?_
                      refine e_then_ret ?_
                      refine e_then_ret ?_
                      refine e_in_ret ?_
                      refine e_then_ret ?_
                      refine e_in_ret ?_
                      exact r_ret1 S rfl rfl (.inl ⟨hB.trans (rp.B_many hnt hsz (rp.many_ns hmk) hmk (hN ▸ rp.many_no (by omega) hM hr)), q, r3, v3, s3, ap3, cs3, lb3, lr3, rfl, hq1, hq2, H⟩)
                    · skip
                      refine ⟨_, rfl, ?_⟩; clear S a; intro a S; clear H hcon; have H := hH; clear hH
                      rw [List.drop_drop] at hrow4 hw4 H
                      rw [rp.take_more (by rw [← List.drop_drop, hR]), Nat.add_assoc (j + 1) c2 c3] at hown3 H
                      refine l_pure S (p_assign rfl) rfl rfl rfl ?_; clear S a; intro a S
                      refine l_nil ?_
                      refine e_then ?_
                      refine wp_seq ?_
                      refine c_region ?_
                      refine l_pure S (p_move rfl) rfl rfl rfl ?_; clear S a; intro a S
                      refine l_pure S (p_nilnilN mi49 rfl) rfl rfl rfl ?_; clear S a; intro a S
                      refine l_nil ?_
                      refine e_then ?_
                      refine c_cond (b := false) S rfl (fun h => by cases h) (fun _ => ?_)
                      refine wp_skip ?_
                      refine e_in 3 ?_
                      refine e_then ?_
                      refine c_region ?_
                      refine l_pure S (p_move rfl) rfl rfl rfl ?_; clear S a; intro a S
                      refine l_pure S (p_add rfl rfl (nat_add (x := i) (y := 1) (by omega))) rfl rfl rfl ?_; clear S a; intro a S
                      refine l_pure S (p_assign rfl) rfl rfl rfl ?_; clear S a; intro a S
                      refine l_nil ?_
                      refine e_then ?_
                      exact ⟨⟨i + 1, c2 + c3, A3, k3, ow3, cs3, r3, s3, ap3, lb3, lr3⟩, ⟨S.only ⟨rfl, rfl, rfl, rfl, trivial⟩, H, ⟨by omega, by omega, hown3, hcs3, hrow4, hw4, hs3, by omega, rp.many_yes (by omega) hM hr⟩⟩, (show N - (i + 1) < N - i by omega)⟩
                  · skip
                    have c15 := bc15
                    have c15 := of_decide_eq_false c15
                    refine wp_exit ?_
                    refine e_then_exit ?_
                    refine e_then_exit ?_
                    refine e_in_exit ?_
                    refine e_then ?_
                    refine wp_seq ?_
                    refine c_region ?_
                    refine l_pure S (p_assign rfl) rfl rfl rfl ?_; clear S a; intro a S
                    refine l_nil ?_
                    refine e_then ?_
                    refine wp_ret ?_
                    refine e_in_ret ?_
                    exact r_ret1 S rfl rfl (.inr ⟨(j + 1 + c2), hB.trans (rp.B_many hnt hsz (rp.many_ns hmk) hmk (hN ▸ rp.many_done (by omega) hM)), by omega, rfl, A2, k2, ow2, cs2, r2, s2, ap2, lb2, lr2, hown2, hcs2, by rw [← List.drop_drop, hR]; exact hrow3, by rw [← List.drop_drop, hR]; exact hw3, hs2, hap2, by rw [← List.drop_drop, hR]; exact H⟩)
                · skip
                  refine wp_seq ?_
                  refine c_region ?_
                  refine l_pure S (p_move rfl) rfl rfl rfl ?_; clear S a; intro a S
                  refine l_nil ?_
                  refine e_then ?_
                  refine wp_block ?_
                  refine wp_seq ?_
                  refine wp_seq ?_
                  refine c_region ?_
                  refine l_pure S (p_eql rfl rfl) rfl rfl rfl ?_; clear S a; intro a S
                  refine l_pure S (p_assign rfl) rfl rfl rfl ?_; clear S a; intro a S
                  refine l_nil ?_
                  refine e_then ?_
                  refine c_cond S rfl (fun bc21 => ?_) (fun bc21 => ?_)
                  · skip
                    have c21 := bc21
                    have c21 := eq_of_beq c21
                    refine wp_skip ?_
                    refine e_then ?_
                    refine c_cond S rfl (fun _ => ?_) (fun h => by rw [bc21] at h; cases h)
                    refine c_region ?_
                    refine l_pure S (p_move rfl) rfl rfl rfl ?_; clear S a; intro a S
                    refine l_pure S (p_mul rfl rfl (nat_mul (x := m) (y := 2) (by omega))) rfl rfl rfl ?_; clear S a; intro a S
                    refine l_pure S (p_assign rfl) rfl rfl rfl ?_; clear S a; intro a S
                    refine l_nil ?_
                    refine e_in 1 ?_
                    refine e_then ?_
                    exact ⟨(m * 2), S.only ⟨rfl, rfl, rfl, trivial⟩, H, (by rw [rp.many_two (by omega)])⟩
                  · skip
                    have c21 := bc21
                    have c21 := ne_of_beq_false c21
                    refine c_region ?_
                    refine l_pure S (p_eql rfl rfl) rfl rfl rfl ?_; clear S a; intro a S
                    refine l_pure S (p_assign rfl) rfl rfl rfl ?_; clear S a; intro a S
                    refine l_nil ?_
                    refine e_then ?_
                    refine c_cond S rfl (fun bc24 => ?_) (fun bc24 => ?_)
                    · skip
                      have c24 := bc24
                      have c24 := eq_of_beq c24
                      refine c_region ?_
                      refine l_pure S (p_move rfl) rfl rfl rfl ?_; clear S a; intro a S
                      refine l_pure S (p_mul rfl rfl (nat_mul (x := m) (y := 2) (by omega))) rfl rfl rfl ?_; clear S a; intro a S
                      refine l_pure S (p_assign rfl) rfl rfl rfl ?_; clear S a; intro a S
                      refine l_nil ?_
                      refine e_in 1 ?_
                      refine e_then ?_
                      exact ⟨(m * 2), S.only ⟨rfl, rfl, rfl, trivial⟩, H, (by rw [rp.many_two (by omega)])⟩
                    · skip
                      have c24 := bc24
                      have c24 := ne_of_beq_false c24
                      refine wp_skip ?_
                      refine e_in 1 ?_
                      refine e_then ?_
                      exact ⟨m, S.only ⟨rfl, rfl, rfl, trivial⟩, H, (by rw [rp.many_one hmk (by omega), Nat.mul_one])⟩
            · skip
              refine ⟨_, rfl, ?_⟩; clear S a; intro a S; clear hcon; replace H := H.join hH; clear hH; rw [List.nil_append] at H
              have hsz := rp.size_bad rfl h1
              refine l_pure S (p_move rfl) rfl rfl rfl ?_; clear S a; intro a S
              refine l_pure S (p_extract rfl rfl) rfl rfl rfl ?_; clear S a; intro a S
              refine l_pure S (p_extract rfl rfl) rfl rfl rfl ?_; clear S a; intro a S
              refine l_pure S (p_assign rfl) rfl rfl rfl ?_; clear S a; intro a S
              refine l_pure S (p_assign rfl) rfl rfl rfl ?_; clear S a; intro a S
              refine l_nil ?_
              refine e_then ?_
              refine wp_seq ?_
              refine wp_seq ?_
              refine c_region ?_
              refine l_pure S (p_move rfl) rfl rfl rfl ?_; clear S a; intro a S
              refine l_pure S (p_ifnilN mi49 rfl rfl) rfl rfl rfl ?_; clear S a; intro a S
              refine l_nil ?_
              refine e_then ?_
              refine c_cond (b := true) S rfl (fun _ => ?_) (fun h => by cases h)
              refine wp_seq ?_
              refine c_region ?_
              refine l_pure S (p_move rfl) rfl rfl rfl ?_; clear S a; intro a S
              refine l_pure S (p_assign rfl) rfl rfl rfl ?_; clear S a; intro a S
              refine l_nil ?_
              refine e_then ?_
              refine wp_ret ?_
              refine e_then_ret ?_
              refine e_in_ret ?_
              exact r_ret1 S rfl rfl (.inl ⟨hB.trans (rp.B_no hnt hsz), q, _, R, s1, _, _, _, _, rfl, hw2, by omega, H.dropOwn⟩)
        · skip
          have c7 := bc7
          have hmk : rp.many kd = 0 := Classical.byContradiction fun h => by rw [hinv, decide_eq_true h] at c7; cases c7
          refine c_cut (fun a w => ∃ bm : Bool, SL a 132 [] [(0, .pointer (some ⟨grm, 0, none⟩)), (1, .iface 102 (.pointer (some ⟨g, 0, none⟩))), (7, .slice (some ⟨gb, offAt r1 cap 1, none⟩) b.length (cap - 1)), (8, .int .u8 kd), (42, .int .u8 kd), (81, .bool bm)] ∧ HH (wb.heap.size) wb w ((g, .cells #[.slice (some ⟨gb, 0, none⟩) 4096 4096, .iface 42 (.pointer (some ⟨gr, 0, none⟩)), .int .i64 ((r1 + (j + 1) : Nat) : Int), .int .i64 ((r1 + (j + 1) + R.length : Nat) : Int), .nilIface, .int .i64 lb1, .int .i64 lr1] 153 (0, 0)) :: (gb, .cells cs1 5 (0, 0)) :: (gr, .cells #[.string s1, .slice Az zs.length cz, .int .i64 (ap1 : Int), .bool false] 86 (0, 0)) :: (grm, .cells #[.slice A1 (l ++ Y.take (j + 1)).length c1] 62 (0, 0)) :: (ow1 ++ L0)) ∧ bm = rp.isBlob kd) ?_ ?_
          · clear S a H; rintro a w ⟨bm, S, H, hinv⟩
            refine c_cond S rfl (fun bc27 => ?_) (fun bc27 => ?_)
            · skip
              have c27 := bc27
              have hbl : rp.isBlob kd = true := hinv ▸ c27
              have hb36 : kd = 36 → b ≠ [] := fun h36 h => hne2 (rp.B_empty (rp.blob_nl hbl) (fun h2 => by rw [hbl] at h2; cases h2.2) ⟨h, .inr h36⟩)
              refine wp_seq ?_
              refine wp_seq ?_
              refine c_region ?_
              refine l_pure S (p_move rfl) rfl rfl rfl ?_; clear S a; intro a S
              refine l_pure S (p_eql rfl rfl) rfl rfl rfl ?_; clear S a; intro a S
              refine l_pure S (p_move rfl) rfl rfl rfl ?_; clear S a; intro a S
              refine l_split (S.of 88 rfl) (fun bc29 => ?_) (fun bc29 => ?_)
              · skip
                have c29 := bc29
                have c29 := eq_of_beq c29
                refine l_on S rfl rfl rfl rfl bc29 ?_
                refine l_pure S (p_move rfl) rfl rfl rfl ?_; clear S a; intro a S
                refine l_on S rfl rfl rfl rfl bc29 ?_
                refine l_pure S (p_indexAddr rfl rfl (fun w => ia_slice Tryd.underlying55 sz5 (by omega) (by have := List.length_pos_iff.2 (hb36 (by grind)); omega))) rfl rfl rfl ?_; clear S a; intro a S
                refine l_on S rfl rfl rfl rfl bc29 ?_
                refine l_read S H (r_load (v := .int .u8 (b.getD 0 0)) rfl (List.mem_cons_of_mem _ List.mem_cons_self) (by have := List.length_pos_iff.2 (hb36 (by grind)); simpa using rp.row_get (i := 0) hbrow (by omega)) (fun w hc => ld1 ag5 hc)) rfl rfl rfl ?_; clear S a; intro a S
                refine l_on S rfl rfl rfl rfl bc29 ?_
                refine l_pure S (p_eql rfl rfl) rfl rfl rfl ?_; clear S a; intro a S
                refine l_pure S (p_pick_t rfl bc29 rfl) rfl rfl rfl ?_; clear S a; intro a S
                refine l_nil ?_
                refine e_then ?_
                refine c_cond S rfl (fun bc31 => ?_) (fun bc31 => ?_)
                · skip
                  have c31 := bc31
                  have c31 := eq_of_beq c31
                  refine wp_seq ?_
                  refine c_region ?_
                  refine l_pure S (p_assign rfl) rfl rfl rfl ?_; clear S a; intro a S
                  refine l_nil ?_
                  refine e_then ?_
                  refine wp_ret ?_
                  refine e_then_ret ?_
                  refine e_in_ret ?_
                  exact r_ret1 S rfl rfl (.inr ⟨(j + 1), hB.trans (rp.B_q (rp.blob_nl hbl) (fun h2 => by rw [hbl] at h2; cases h2.2) (fun h2 => h2.2.elim (fun h3 => h3 hmk) (fun h3 => hb36 h3 h2.1)) ⟨.inr (by omega), by omega⟩), by omega, rfl, _, _, ow1, cs1, _, s1, ap1, _, _, hown1, hcs1, by rw [hR]; exact hrow2, by rw [hR]; exact hw2, hs1, by omega, by rw [hR]; exact H⟩)
                · skip
                  have c31 := bc31
                  have c31 := ne_of_beq_false c31
                  refine wp_skip ?_
                  refine e_then ?_
                  refine wp_seq ?_
                  refine c_region ?_
                  refine l_pure S (p_move rfl) rfl rfl rfl ?_; clear S a; intro a S
                  have hnt : rp.NT kd b := rp.NT_blob hmk hbl (by intro h36; exact ⟨hb36 h36, by grind⟩)
                  have hcon := re.pi_ w gb (offAt r1 cap 1) (cap - 1) b (rp.row_rb H (List.mem_cons_of_mem _ List.mem_cons_self) hbrow) (by omega) (by omega)
                  refine l_call S rfl rfl Tryd.func53 rfl rfl hcon rfl rfl rfl ?_
                  rintro e w ⟨hH, ⟨h1, n, rfl, hn⟩ | ⟨h1, q, rfl⟩⟩
                  · skip
                    refine ⟨_, rfl, ?_⟩; clear S a; intro a S; clear hcon; replace H := H.join hH; clear hH; rw [List.nil_append] at H
                    obtain ⟨h18, hsz, hn1, hn2⟩ := rp.size_ok h1 (fun h => hne2 (rp.B_odd hnt h))
                    rw [← hn h18] at hsz hn1 hn2
                    refine l_pure S (p_move rfl) rfl rfl rfl ?_; clear S a; intro a S
                    refine l_pure S (p_extract rfl rfl) rfl rfl rfl ?_; clear S a; intro a S
                    refine l_pure S (p_extract rfl rfl) rfl rfl rfl ?_; clear S a; intro a S
                    refine l_pure S (p_assign rfl) rfl rfl rfl ?_; clear S a; intro a S
                    refine l_pure S (p_assign rfl) rfl rfl rfl ?_; clear S a; intro a S
                    refine l_nil ?_
                    refine e_then ?_
                    refine wp_seq ?_
                    refine wp_seq ?_
                    refine c_region ?_
                    refine l_pure S (p_move rfl) rfl rfl rfl ?_; clear S a; intro a S
                    refine l_pure S (p_nilnilN mi49 rfl) rfl rfl rfl ?_; clear S a; intro a S
                    refine l_nil ?_
                    refine e_then ?_
                    refine c_cond (b := false) S rfl (fun h => by cases h) (fun _ => ?_)
                    refine wp_seq ?_
                    refine c_region ?_
                    refine l_pure S (p_move rfl) rfl rfl rfl ?_; clear S a; intro a S
                    refine l_pure S (p_eql rfl rfl) rfl rfl rfl ?_; clear S a; intro a S
                    refine l_nil ?_
                    refine e_then ?_
                    refine c_cond S rfl (fun bc35 => ?_) (fun bc35 => ?_)
                    · skip
                      have c35 := bc35
                      have c35 := eq_of_beq c35
                      refine wp_seq ?_
                      refine c_region ?_
                      refine l_pure S (p_assign rfl) rfl rfl rfl ?_; clear S a; intro a S
                      refine l_nil ?_
                      refine e_then ?_
                      refine wp_ret ?_
                      refine e_then_ret ?_
                      refine e_in_ret ?_
                      exact r_ret1 S rfl rfl (.inr ⟨(j + 1), hB.trans (rp.B_stop hnt hsz (by omega)), by omega, rfl, _, _, ow1, cs1, _, s1, ap1, _, _, hown1, hcs1, by rw [hR]; exact hrow2, by rw [hR]; exact hw2, hs1, by omega, by rw [hR]; exact H⟩)
                    · skip
                      have c35 := bc35
                      have c35 := ne_of_beq_false c35
                      obtain ⟨m, rfl⟩ := Int.eq_ofNat_of_zero_le (show 0 ≤ n by omega)
                      refine wp_seq ?_
                      refine c_region ?_
                      refine l_pure S (p_move rfl) rfl rfl rfl ?_; clear S a; intro a S
                      refine l_pure S (p_eql rfl rfl) rfl rfl rfl ?_; clear S a; intro a S
                      refine l_pure S (p_move rfl) rfl rfl rfl ?_; clear S a; intro a S
                      refine l_split (S.of 106 rfl) (fun bc37 => ?_) (fun bc37 => ?_)
                      · skip
                        have c37 := bc37
                        have c37 := eq_of_beq c37
                        refine l_on S rfl rfl rfl rfl bc37 ?_
                        refine l_pure S (p_move rfl) rfl rfl rfl ?_; clear S a; intro a S
                        refine l_on S rfl rfl rfl rfl bc37 ?_
                        refine l_pure S (p_eql rfl rfl) rfl rfl rfl ?_; clear S a; intro a S
                        refine l_pure S (p_pick_t rfl bc37 rfl) rfl rfl rfl ?_; clear S a; intro a S
                        refine l_nil ?_
                        refine e_then ?_
                        refine c_cond S rfl (fun bc39 => ?_) (fun bc39 => ?_)
                        · skip
                          have c39 := bc39
                          have c39 := eq_of_beq c39
                          refine wp_seq ?_
                          refine c_region ?_
                          refine l_pure S (p_assign rfl) rfl rfl rfl ?_; clear S a; intro a S
                          refine l_nil ?_
                          refine e_then ?_
                          refine wp_ret ?_
                          refine e_then_ret ?_
                          refine e_in_ret ?_
                          exact r_ret1 S rfl rfl (.inr ⟨(j + 1), hB.trans (rp.B_stop hnt hsz (by omega)), by omega, rfl, _, _, ow1, cs1, _, s1, ap1, _, _, hown1, hcs1, by rw [hR]; exact hrow2, by rw [hR]; exact hw2, hs1, by omega, by rw [hR]; exact H⟩)
                        · skip
                          have c39 := bc39
                          have c39 := ne_of_beq_false c39
                          refine wp_skip ?_
                          refine e_then ?_
                          refine wp_seq ?_
                          refine c_region ?_
                          refine l_pure S (p_move rfl) rfl rfl rfl ?_; clear S a; intro a S
                          refine l_pure S (p_move rfl) rfl rfl rfl ?_; clear S a; intro a S
                          refine l_pure S (p_move rfl) rfl rfl rfl ?_; clear S a; intro a S
                          refine l_pure S (p_nilCheck rfl) rfl rfl rfl ?_; clear S a; intro a S
                          refine l_read S H (r_load rfl (List.mem_cons_of_mem _ (List.mem_cons_of_mem _ (List.mem_cons_of_mem _ List.mem_cons_self))) rfl (fun w hc => ld1 ag62 hc)) rfl rfl rfl ?_; clear S a; intro a S
                          refine l_pure S (p_move rfl) rfl rfl rfl ?_; clear S a; intro a S
                          refine l_pure S (p_add rfl rfl (nat_add (x := m) (y := 2) (by omega))) rfl rfl rfl ?_; clear S a; intro a S
                          have hbne : rp.bodyR m R ≠ none := fun h => hne2 (rp.B_body hnt hsz (by grind) hmk h)
                          obtain ⟨go, co, fo, rfl, rfl, hlc, hco, hth, hl0⟩ := rp.own_open hown1 (by rw [List.length_append]; omega)
                          have hll : (l ++ Y.take (j + 1)).length = l.length + (j + 1) := by rw [List.length_append, ← hlen]
                          have hcon := re.rnapp_ wb _ _ g gb gr cs1 (r1 + (j + 1)) R s1 Az zs cz ap1 lb1 lr1 go (m + 2) c1 co fo (l ++ Y.take (j + 1)) ae hE hlt qe hU hltU H.swap34 hcs1 hrow2 hw2 hs1 hco hlc hth hl0 (by omega) (by omega) (by omega)
                          refine l_call S rfl rfl Tryd.func54 rfl rfl hcon rfl rfl rfl ?_
                          rintro e w (⟨hm2, A2, k2, ow2, r2, lb2, lr2, rfl, hown2, hrow3, hw3, hH⟩ | ⟨hm2, A2, n2, k2, q, r2, lb2, lr2, rfl, hr2, hH⟩)
                          · skip
                            refine ⟨_, rfl, ?_⟩; clear S a; intro a S; clear H hcon; have H := hH.fore; clear hH
                            refine l_pure S (p_move rfl) rfl rfl rfl ?_; clear S a; intro a S
                            refine l_pure S (p_extract rfl rfl) rfl rfl rfl ?_; clear S a; intro a S
                            refine l_pure S (p_extract rfl rfl) rfl rfl rfl ?_; clear S a; intro a S
                            refine l_pure S (p_nilCheck rfl) rfl rfl rfl ?_; clear S a; intro a S
                            refine l_store S H rfl rfl rfl (.there (.there (.there .here))) (by first | decide | simp [Value.cells]) (fun w u hc hz => st1 sz62 rfl hc hz) rfl rfl ?_; clear S a H; intro w a H S
                            refine l_pure S (p_assign rfl) rfl rfl rfl ?_; clear S a; intro a S
                            refine l_nil ?_
                            refine e_then ?_
                            refine wp_seq ?_
                            refine c_region ?_
                            refine l_pure S (p_move rfl) rfl rfl rfl ?_; clear S a; intro a S
                            refine l_pure S (p_assign rfl) rfl rfl rfl ?_; clear S a; intro a S
                            refine l_nil ?_
                            refine e_then ?_
                            refine wp_ret ?_
                            refine e_in_ret ?_
                            exact r_ret1 S rfl rfl (.inr ⟨(j + 1 + (m + 2)), hB.trans (rp.B_body hnt hsz (by grind) hmk (rp.body_yes hm2 hbne)), by omega, rfl, A2, k2, ow2, cs1, r2, s1, ap1, lb2, lr2, by rw [← rp.take_more hR]; exact hown2, hcs1, by rw [← List.drop_drop, hR]; exact hrow3, by rw [← List.drop_drop, hR]; exact hw3, hs1, by omega, by rw [← List.drop_drop, hR, ← rp.take_more hR]; exact H⟩)
                          · skip
                            refine ⟨_, rfl, ?_⟩; clear S a; intro a S; clear H hcon; have H := hH; clear hH
                            refine l_pure S (p_move rfl) rfl rfl rfl ?_; clear S a; intro a S
                            refine l_pure S (p_extract rfl rfl) rfl rfl rfl ?_; clear S a; intro a S
                            refine l_pure S (p_extract rfl rfl) rfl rfl rfl ?_; clear S a; intro a S
                            refine l_pure S (p_nilCheck rfl) rfl rfl rfl ?_; clear S a; intro a S
                            refine l_store S H rfl rfl rfl (.there (.there (.there .here))) (by first | decide | simp [Value.cells]) (fun w u hc hz => st1 sz62 rfl hc hz) rfl rfl ?_; clear S a H; intro w a H S
                            refine l_pure S (p_assign rfl) rfl rfl rfl ?_; clear S a; intro a S
                            refine l_nil ?_
                            refine e_then ?_
                            refine wp_seq ?_
                            refine c_region ?_
                            refine l_pure S (p_move rfl) rfl rfl rfl ?_; clear S a; intro a S
                            refine l_pure S (p_assign rfl) rfl rfl rfl ?_; clear S a; intro a S
                            refine l_nil ?_
                            refine e_then ?_
                            refine wp_ret ?_
                            refine e_in_ret ?_
                            exact r_ret1 S rfl rfl (.inl ⟨hB.trans (rp.B_body hnt hsz (by grind) hmk (rp.body_no hm2)), q, r2, [], s1, _, _, _, _, rfl, by simpa using hr2, by omega, H.drop4⟩)
                      · skip
                        have c37 := bc37
                        have c37 := ne_of_beq_false c37
                        refine l_off S rfl rfl rfl rfl bc37 rfl rfl ?_; clear S a; intro a S
                        refine l_off S rfl rfl rfl rfl bc37 rfl rfl ?_; clear S a; intro a S
                        refine l_pure S (p_pick_f rfl bc37 rfl) rfl rfl rfl ?_; clear S a; intro a S
                        refine l_nil ?_
                        refine e_then ?_
                        refine c_cond (b := false) S rfl (fun h => by cases h) (fun _ => ?_)
                        refine wp_skip ?_
                        refine e_then ?_
                        refine wp_seq ?_
                        refine c_region ?_
                        refine l_pure S (p_move rfl) rfl rfl rfl ?_; clear S a; intro a S
                        refine l_pure S (p_move rfl) rfl rfl rfl ?_; clear S a; intro a S
                        refine l_pure S (p_move rfl) rfl rfl rfl ?_; clear S a; intro a S
                        refine l_pure S (p_nilCheck rfl) rfl rfl rfl ?_; clear S a; intro a S
                        refine l_read S H (r_load rfl (List.mem_cons_of_mem _ (List.mem_cons_of_mem _ (List.mem_cons_of_mem _ List.mem_cons_self))) rfl (fun w hc => ld1 ag62 hc)) rfl rfl rfl ?_; clear S a; intro a S
                        refine l_pure S (p_move rfl) rfl rfl rfl ?_; clear S a; intro a S
                        refine l_pure S (p_add rfl rfl (nat_add (x := m) (y := 2) (by omega))) rfl rfl rfl ?_; clear S a; intro a S
                        have hbne : rp.bodyR m R ≠ none := fun h => hne2 (rp.B_body hnt hsz (by grind) hmk h)
                        obtain ⟨go, co, fo, rfl, rfl, hlc, hco, hth, hl0⟩ := rp.own_open hown1 (by rw [List.length_append]; omega)
                        have hll : (l ++ Y.take (j + 1)).length = l.length + (j + 1) := by rw [List.length_append, ← hlen]
                        have hcon := re.rnapp_ wb _ _ g gb gr cs1 (r1 + (j + 1)) R s1 Az zs cz ap1 lb1 lr1 go (m + 2) c1 co fo (l ++ Y.take (j + 1)) ae hE hlt qe hU hltU H.swap34 hcs1 hrow2 hw2 hs1 hco hlc hth hl0 (by omega) (by omega) (by omega)
                        refine l_call S rfl rfl Tryd.func54 rfl rfl hcon rfl rfl rfl ?_
                        rintro e w (⟨hm2, A2, k2, ow2, r2, lb2, lr2, rfl, hown2, hrow3, hw3, hH⟩ | ⟨hm2, A2, n2, k2, q, r2, lb2, lr2, rfl, hr2, hH⟩)
                        · skip
                          refine ⟨_, rfl, ?_⟩; clear S a; intro a S; clear H hcon; have H := hH.fore; clear hH
                          refine l_pure S (p_move rfl) rfl rfl rfl ?_; clear S a; intro a S
                          refine l_pure S (p_extract rfl rfl) rfl rfl rfl ?_; clear S a; intro a S
                          refine l_pure S (p_extract rfl rfl) rfl rfl rfl ?_; clear S a; intro a S
                          refine l_pure S (p_nilCheck rfl) rfl rfl rfl ?_; clear S a; intro a S
                          refine l_store S H rfl rfl rfl (.there (.there (.there .here))) (by first | decide | simp [Value.cells]) (fun w u hc hz => st1 sz62 rfl hc hz) rfl rfl ?_; clear S a H; intro w a H S
                          refine l_pure S (p_assign rfl) rfl rfl rfl ?_; clear S a; intro a S
                          refine l_nil ?_
                          refine e_then ?_
                          refine wp_seq ?_
                          refine c_region ?_
                          refine l_pure S (p_move rfl) rfl rfl rfl ?_; clear S a; intro a S
                          refine l_pure S (p_assign rfl) rfl rfl rfl ?_; clear S a; intro a S
                          refine l_nil ?_
                          refine e_then ?_
                          refine wp_ret ?_
                          refine e_in_ret ?_
                          exact r_ret1 S rfl rfl (.inr ⟨(j + 1 + (m + 2)), hB.trans (rp.B_body hnt hsz (by grind) hmk (rp.body_yes hm2 hbne)), by omega, rfl, A2, k2, ow2, cs1, r2, s1, ap1, lb2, lr2, by rw [← rp.take_more hR]; exact hown2, hcs1, by rw [← List.drop_drop, hR]; exact hrow3, by rw [← List.drop_drop, hR]; exact hw3, hs1, by omega, by rw [← List.drop_drop, hR, ← rp.take_more hR]; exact H⟩)
                        · skip
                          refine ⟨_, rfl, ?_⟩; clear S a; intro a S; clear H hcon; have H := hH; clear hH
                          refine l_pure S (p_move rfl) rfl rfl rfl ?_; clear S a; intro a S
                          refine l_pure S (p_extract rfl rfl) rfl rfl rfl ?_; clear S a; intro a S
                          refine l_pure S (p_extract rfl rfl) rfl rfl rfl ?_; clear S a; intro a S
                          refine l_pure S (p_nilCheck rfl) rfl rfl rfl ?_; clear S a; intro a S
                          refine l_store S H rfl rfl rfl (.there (.there (.there .here))) (by first | decide | simp [Value.cells]) (fun w u hc hz => st1 sz62 rfl hc hz) rfl rfl ?_; clear S a H; intro w a H S
                          refine l_pure S (p_assign rfl) rfl rfl rfl ?_; clear S a; intro a S
                          refine l_nil ?_
                          refine e_then ?_
                          refine wp_seq ?_
                          refine c_region ?_
                          refine l_pure S (p_move rfl) rfl rfl rfl ?_; clear S a; intro a S
                          refine l_pure S (p_assign rfl) rfl rfl rfl ?_; clear S a; intro a S
                          refine l_nil ?_
                          refine e_then ?_
                          refine wp_ret ?_
                          refine e_in_ret ?_
                          exact r_ret1 S rfl rfl (.inl ⟨hB.trans (rp.B_body hnt hsz (by grind) hmk (rp.body_no hm2)), q, r2, [], s1, _, _, _, _, rfl, by simpa using hr2, by omega, H.drop4⟩)
                  · skip
                    refine ⟨_, rfl, ?_⟩; clear S a; intro a S; clear hcon; replace H := H.join hH; clear hH; rw [List.nil_append] at H
                    have hsz := rp.size_bad rfl h1
                    refine l_pure S (p_move rfl) rfl rfl rfl ?_; clear S a; intro a S
                    refine l_pure S (p_extract rfl rfl) rfl rfl rfl ?_; clear S a; intro a S
                    refine l_pure S (p_extract rfl rfl) rfl rfl rfl ?_; clear S a; intro a S
                    refine l_pure S (p_assign rfl) rfl rfl rfl ?_; clear S a; intro a S
                    refine l_pure S (p_assign rfl) rfl rfl rfl ?_; clear S a; intro a S
                    refine l_nil ?_
                    refine e_then ?_
                    refine wp_seq ?_
                    refine wp_seq ?_
                    refine c_region ?_
                    refine l_pure S (p_move rfl) rfl rfl rfl ?_; clear S a; intro a S
                    refine l_pure S (p_ifnilN mi49 rfl rfl) rfl rfl rfl ?_; clear S a; intro a S
                    refine l_nil ?_
                    refine e_then ?_
                    refine c_cond (b := true) S rfl (fun _ => ?_) (fun h => by cases h)
                    refine wp_seq ?_
                    refine c_region ?_
                    refine l_pure S (p_move rfl) rfl rfl rfl ?_; clear S a; intro a S
                    refine l_pure S (p_assign rfl) rfl rfl rfl ?_; clear S a; intro a S
                    refine l_nil ?_
                    refine e_then ?_
                    refine wp_ret ?_
                    refine e_then_ret ?_
                    refine e_in_ret ?_
                    exact r_ret1 S rfl rfl (.inl ⟨hB.trans (rp.B_no hnt hsz), q, _, R, s1, _, _, _, _, rfl, hw2, by omega, H.dropOwn⟩)
              · skip
                have c29 := bc29
                have c29 := ne_of_beq_false c29
                refine l_off S rfl rfl rfl rfl bc29 rfl rfl ?_; clear S a; intro a S
                refine l_off S rfl rfl rfl rfl bc29 rfl rfl ?_; clear S a; intro a S
                refine l_off S rfl rfl rfl rfl bc29 rfl rfl ?_; clear S a; intro a S
                refine l_off S rfl rfl rfl rfl bc29 rfl rfl ?_; clear S a; intro a S
                refine l_pure S (p_pick_f rfl bc29 rfl) rfl rfl rfl ?_; clear S a; intro a S
                refine l_nil ?_
                refine e_then ?_
                refine c_cond (b := false) S rfl (fun h => by cases h) (fun _ => ?_)
                refine wp_skip ?_
                refine e_then ?_
                refine wp_seq ?_
                refine c_region ?_
                refine l_pure S (p_move rfl) rfl rfl rfl ?_; clear S a; intro a S
                have hnt : rp.NT kd b := rp.NT_blob hmk hbl (by intro h36; exact ⟨hb36 h36, by grind⟩)
                have hcon := re.pi_ w gb (offAt r1 cap 1) (cap - 1) b (rp.row_rb H (List.mem_cons_of_mem _ List.mem_cons_self) hbrow) (by omega) (by omega)
                refine l_call S rfl rfl Tryd.func53 rfl rfl hcon rfl rfl rfl ?_
                rintro e w ⟨hH, ⟨h1, n, rfl, hn⟩ | ⟨h1, q, rfl⟩⟩
                · skip
                  refine ⟨_, rfl, ?_⟩; clear S a; intro a S; clear hcon; replace H := H.join hH; clear hH; rw [List.nil_append] at H
                  obtain ⟨h18, hsz, hn1, hn2⟩ := rp.size_ok h1 (fun h => hne2 (rp.B_odd hnt h))
                  rw [← hn h18] at hsz hn1 hn2
                  refine l_pure S (p_move rfl) rfl rfl rfl ?_; clear S a; intro a S
                  refine l_pure S (p_extract rfl rfl) rfl rfl rfl ?_; clear S a; intro a S
                  refine l_pure S (p_extract rfl rfl) rfl rfl rfl ?_; clear S a; intro a S
                  refine l_pure S (p_assign rfl) rfl rfl rfl ?_; clear S a; intro a S
                  refine l_pure S (p_assign rfl) rfl rfl rfl ?_; clear S a; intro a S
                  refine l_nil ?_
                  refine e_then ?_
                  refine wp_seq ?_
                  refine wp_seq ?_
                  refine c_region ?_
                  refine l_pure S (p_move rfl) rfl rfl rfl ?_; clear S a; intro a S
                  refine l_pure S (p_nilnilN mi49 rfl) rfl rfl rfl ?_; clear S a; intro a S
                  refine l_nil ?_
                  refine e_then ?_
                  refine c_cond (b := false) S rfl (fun h => by cases h) (fun _ => ?_)
                  refine wp_seq ?_
                  refine c_region ?_
                  refine l_pure S (p_move rfl) rfl rfl rfl ?_; clear S a; intro a S
                  refine l_pure S (p_eql rfl rfl) rfl rfl rfl ?_; clear S a; intro a S
                  refine l_nil ?_
                  refine e_then ?_
                  refine c_cond S rfl (fun bc49 => ?_) (fun bc49 => ?_)
                  · skip
                    have c49 := bc49
                    have c49 := eq_of_beq c49
                    refine wp_seq ?_
                    refine c_region ?_
                    refine l_pure S (p_assign rfl) rfl rfl rfl ?_; clear S a; intro a S
                    refine l_nil ?_
                    refine e_then ?_
                    refine wp_ret ?_
                    refine e_then_ret ?_
                    refine e_in_ret ?_
                    exact r_ret1 S rfl rfl (.inr ⟨(j + 1), hB.trans (rp.B_stop hnt hsz (by omega)), by omega, rfl, _, _, ow1, cs1, _, s1, ap1, _, _, hown1, hcs1, by rw [hR]; exact hrow2, by rw [hR]; exact hw2, hs1, by omega, by rw [hR]; exact H⟩)
                  · skip
                    have c49 := bc49
                    have c49 := ne_of_beq_false c49
                    obtain ⟨m, rfl⟩ := Int.eq_ofNat_of_zero_le (show 0 ≤ n by omega)
                    refine wp_seq ?_
                    refine c_region ?_
                    refine l_pure S (p_move rfl) rfl rfl rfl ?_; clear S a; intro a S
                    refine l_pure S (p_eql rfl rfl) rfl rfl rfl ?_; clear S a; intro a S
                    refine l_pure S (p_move rfl) rfl rfl rfl ?_; clear S a; intro a S
                    refine l_split (S.of 106 rfl) (fun bc51 => ?_) (fun bc51 => ?_)
                    · skip
                      have c51 := bc51
                      have c51 := eq_of_beq c51
                      refine l_on S rfl rfl rfl rfl bc51 ?_
                      refine l_pure S (p_move rfl) rfl rfl rfl ?_; clear S a; intro a S
                      refine l_on S rfl rfl rfl rfl bc51 ?_
                      refine l_pure S (p_eql rfl rfl) rfl rfl rfl ?_; clear S a; intro a S
                      refine l_pure S (p_pick_t rfl bc51 rfl) rfl rfl rfl ?_; clear S a; intro a S
                      refine l_nil ?_
                      refine e_then ?_
                      refine c_cond S rfl (fun bc53 => ?_) (fun bc53 => ?_)
                      · skip
                        have c53 := bc53
                        have c53 := eq_of_beq c53
                        refine wp_seq ?_
                        refine c_region ?_
                        refine l_pure S (p_assign rfl) rfl rfl rfl ?_; clear S a; intro a S
                        refine l_nil ?_
                        refine e_then ?_
                        refine wp_ret ?_
                        refine e_then_ret ?_
                        refine e_in_ret ?_
                        exact r_ret1 S rfl rfl (.inr ⟨(j + 1), hB.trans (rp.B_stop hnt hsz (by omega)), by omega, rfl, _, _, ow1, cs1, _, s1, ap1, _, _, hown1, hcs1, by rw [hR]; exact hrow2, by rw [hR]; exact hw2, hs1, by omega, by rw [hR]; exact H⟩)
                      · skip
                        have c53 := bc53
                        have c53 := ne_of_beq_false c53
                        refine wp_skip ?_
                        refine e_then ?_
                        refine wp_seq ?_
                        refine c_region ?_
                        refine l_pure S (p_move rfl) rfl rfl rfl ?_; clear S a; intro a S
                        refine l_pure S (p_move rfl) rfl rfl rfl ?_; clear S a; intro a S
                        refine l_pure S (p_move rfl) rfl rfl rfl ?_; clear S a; intro a S
                        refine l_pure S (p_nilCheck rfl) rfl rfl rfl ?_; clear S a; intro a S
                        refine l_read S H (r_load rfl (List.mem_cons_of_mem _ (List.mem_cons_of_mem _ (List.mem_cons_of_mem _ List.mem_cons_self))) rfl (fun w hc => ld1 ag62 hc)) rfl rfl rfl ?_; clear S a; intro a S
                        refine l_pure S (p_move rfl) rfl rfl rfl ?_; clear S a; intro a S
                        refine l_pure S (p_add rfl rfl (nat_add (x := m) (y := 2) (by omega))) rfl rfl rfl ?_; clear S a; intro a S
                        have hbne : rp.bodyR m R ≠ none := fun h => hne2 (rp.B_body hnt hsz (by grind) hmk h)
                        obtain ⟨go, co, fo, rfl, rfl, hlc, hco, hth, hl0⟩ := rp.own_open hown1 (by rw [List.length_append]; omega)
                        have hll : (l ++ Y.take (j + 1)).length = l.length + (j + 1) := by rw [List.length_append, ← hlen]
                        have hcon := re.rnapp_ wb _ _ g gb gr cs1 (r1 + (j + 1)) R s1 Az zs cz ap1 lb1 lr1 go (m + 2) c1 co fo (l ++ Y.take (j + 1)) ae hE hlt qe hU hltU H.swap34 hcs1 hrow2 hw2 hs1 hco hlc hth hl0 (by omega) (by omega) (by omega)
                        refine l_call S rfl rfl Tryd.func54 rfl rfl hcon rfl rfl rfl ?_
                        rintro e w (⟨hm2, A2, k2, ow2, r2, lb2, lr2, rfl, hown2, hrow3, hw3, hH⟩ | ⟨hm2, A2, n2, k2, q, r2, lb2, lr2, rfl, hr2, hH⟩)
                        · skip
                          refine ⟨_, rfl, ?_⟩; clear S a; intro a S; clear H hcon; have H := hH.fore; clear hH
                          refine l_pure S (p_move rfl) rfl rfl rfl ?_; clear S a; intro a S
                          refine l_pure S (p_extract rfl rfl) rfl rfl rfl ?_; clear S a; intro a S
                          refine l_pure S (p_extract rfl rfl) rfl rfl rfl ?_; clear S a; intro a S
                          refine l_pure S (p_nilCheck rfl) rfl rfl rfl ?_; clear S a; intro a S
                          refine l_store S H rfl rfl rfl (.there (.there (.there .here))) (by first | decide | simp [Value.cells]) (fun w u hc hz => st1 sz62 rfl hc hz) rfl rfl ?_; clear S a H; intro w a H S
                          refine l_pure S (p_assign rfl) rfl rfl rfl ?_; clear S a; intro a S
                          refine l_nil ?_
                          refine e_then ?_
                          refine wp_seq ?_
                          refine c_region ?_
                          refine l_pure S (p_move rfl) rfl rfl rfl ?_; clear S a; intro a S
                          refine l_pure S (p_assign rfl) rfl rfl rfl ?_; clear S a; intro a S
                          refine l_nil ?_
                          refine e_then ?_
                          refine wp_ret ?_
                          refine e_in_ret ?_
                          exact r_ret1 S rfl rfl (.inr ⟨(j + 1 + (m + 2)), hB.trans (rp.B_body hnt hsz (by grind) hmk (rp.body_yes hm2 hbne)), by omega, rfl, A2, k2, ow2, cs1, r2, s1, ap1, lb2, lr2, by rw [← rp.take_more hR]; exact hown2, hcs1, by rw [← List.drop_drop, hR]; exact hrow3, by rw [← List.drop_drop, hR]; exact hw3, hs1, by omega, by rw [← List.drop_drop, hR, ← rp.take_more hR]; exact H⟩)
                        · skip
                          refine ⟨_, rfl, ?_⟩; clear S a; intro a S; clear H hcon; have H := hH; clear hH
                          refine l_pure S (p_move rfl) rfl rfl rfl ?_; clear S a; intro a S
                          refine l_pure S (p_extract rfl rfl) rfl rfl rfl ?_; clear S a; intro a S
                          refine l_pure S (p_extract rfl rfl) rfl rfl rfl ?_; clear S a; intro a S
                          refine l_pure S (p_nilCheck rfl) rfl rfl rfl ?_; clear S a; intro a S
                          refine l_store S H rfl rfl rfl (.there (.there (.there .here))) (by first | decide | simp [Value.cells]) (fun w u hc hz => st1 sz62 rfl hc hz) rfl rfl ?_; clear S a H; intro w a H S
                          refine l_pure S (p_assign rfl) rfl rfl rfl ?_; clear S a; intro a S
                          refine l_nil ?_
                          refine e_then ?_
                          refine wp_seq ?_
                          refine c_region ?_
                          refine l_pure S (p_move rfl) rfl rfl rfl ?_; clear S a; intro a S
                          refine l_pure S (p_assign rfl) rfl rfl rfl ?_; clear S a; intro a S
                          refine l_nil ?_
                          refine e_then ?_
                          refine wp_ret ?_
                          refine e_in_ret ?_
                          exact r_ret1 S rfl rfl (.inl ⟨hB.trans (rp.B_body hnt hsz (by grind) hmk (rp.body_no hm2)), q, r2, [], s1, _, _, _, _, rfl, by simpa using hr2, by omega, H.drop4⟩)
                    · skip
                      have c51 := bc51
                      have c51 := ne_of_beq_false c51
                      refine l_off S rfl rfl rfl rfl bc51 rfl rfl ?_; clear S a; intro a S
                      refine l_off S rfl rfl rfl rfl bc51 rfl rfl ?_; clear S a; intro a S
                      refine l_pure S (p_pick_f rfl bc51 rfl) rfl rfl rfl ?_; clear S a; intro a S
                      refine l_nil ?_
                      refine e_then ?_
                      refine c_cond (b := false) S rfl (fun h => by cases h) (fun _ => ?_)
                      refine wp_skip ?_
                      refine e_then ?_
                      refine wp_seq ?_
                      refine c_region ?_
                      refine l_pure S (p_move rfl) rfl rfl rfl ?_; clear S a; intro a S
                      refine l_pure S (p_move rfl) rfl rfl rfl ?_; clear S a; intro a S
                      refine l_pure S (p_move rfl) rfl rfl rfl ?_; clear S a; intro a S
                      refine l_pure S (p_nilCheck rfl) rfl rfl rfl ?_; clear S a; intro a S
                      refine l_read S H (r_load rfl (List.mem_cons_of_mem _ (List.mem_cons_of_mem _ (List.mem_cons_of_mem _ List.mem_cons_self))) rfl (fun w hc => ld1 ag62 hc)) rfl rfl rfl ?_; clear S a; intro a S
                      refine l_pure S (p_move rfl) rfl rfl rfl ?_; clear S a; intro a S
                      refine l_pure S (p_add rfl rfl (nat_add (x := m) (y := 2) (by omega))) rfl rfl rfl ?_; clear S a; intro a S
                      have hbne : rp.bodyR m R ≠ none := fun h => hne2 (rp.B_body hnt hsz (by grind) hmk h)
                      obtain ⟨go, co, fo, rfl, rfl, hlc, hco, hth, hl0⟩ := rp.own_open hown1 (by rw [List.length_append]; omega)
                      have hll : (l ++ Y.take (j + 1)).length = l.length + (j + 1) := by rw [List.length_append, ← hlen]
                      have hcon := re.rnapp_ wb _ _ g gb gr cs1 (r1 + (j + 1)) R s1 Az zs cz ap1 lb1 lr1 go (m + 2) c1 co fo (l ++ Y.take (j + 1)) ae hE hlt qe hU hltU H.swap34 hcs1 hrow2 hw2 hs1 hco hlc hth hl0 (by omega) (by omega) (by omega)
                      refine l_call S rfl rfl Tryd.func54 rfl rfl hcon rfl rfl rfl ?_
                      rintro e w (⟨hm2, A2, k2, ow2, r2, lb2, lr2, rfl, hown2, hrow3, hw3, hH⟩ | ⟨hm2, A2, n2, k2, q, r2, lb2, lr2, rfl, hr2, hH⟩)
                      · skip
                        refine ⟨_, rfl, ?_⟩; clear S a; intro a S; clear H hcon; have H := hH.fore; clear hH
                        refine l_pure S (p_move rfl) rfl rfl rfl ?_; clear S a; intro a S
                        refine l_pure S (p_extract rfl rfl) rfl rfl rfl ?_; clear S a; intro a S
                        refine l_pure S (p_extract rfl rfl) rfl rfl rfl ?_; clear S a; intro a S
                        refine l_pure S (p_nilCheck rfl) rfl rfl rfl ?_; clear S a; intro a S
                        refine l_store S H rfl rfl rfl (.there (.there (.there .here))) (by first | decide | simp [Value.cells]) (fun w u hc hz => st1 sz62 rfl hc hz) rfl rfl ?_; clear S a H; intro w a H S
                        refine l_pure S (p_assign rfl) rfl rfl rfl ?_; clear S a; intro a S
                        refine l_nil ?_
                        refine e_then ?_
                        refine wp_seq ?_
                        refine c_region ?_
                        refine l_pure S (p_move rfl) rfl rfl rfl ?_; clear S a; intro a S
                        refine l_pure S (p_assign rfl) rfl rfl rfl ?_; clear S a; intro a S
                        refine l_nil ?_
                        refine e_then ?_
                        refine wp_ret ?_
                        refine e_in_ret ?_
                        exact r_ret1 S rfl rfl (.inr ⟨(j + 1 + (m + 2)), hB.trans (rp.B_body hnt hsz (by grind) hmk (rp.body_yes hm2 hbne)), by omega, rfl, A2, k2, ow2, cs1, r2, s1, ap1, lb2, lr2, by rw [← rp.take_more hR]; exact hown2, hcs1, by rw [← List.drop_drop, hR]; exact hrow3, by rw [← List.drop_drop, hR]; exact hw3, hs1, by omega, by rw [← List.drop_drop, hR, ← rp.take_more hR]; exact H⟩)
                      · skip
                        refine ⟨_, rfl, ?_⟩; clear S a; intro a S; clear H hcon; have H := hH; clear hH
                        refine l_pure S (p_move rfl) rfl rfl rfl ?_; clear S a; intro a S
                        refine l_pure S (p_extract rfl rfl) rfl rfl rfl ?_; clear S a; intro a S
                        refine l_pure S (p_extract rfl rfl) rfl rfl rfl ?_; clear S a; intro a S
                        refine l_pure S (p_nilCheck rfl) rfl rfl rfl ?_; clear S a; intro a S
                        refine l_store S H rfl rfl rfl (.there (.there (.there .here))) (by first | decide | simp [Value.cells]) (fun w u hc hz => st1 sz62 rfl hc hz) rfl rfl ?_; clear S a H; intro w a H S
                        refine l_pure S (p_assign rfl) rfl rfl rfl ?_; clear S a; intro a S
                        refine l_nil ?_
                        refine e_then ?_
                        refine wp_seq ?_
                        refine c_region ?_
                        refine l_pure S (p_move rfl) rfl rfl rfl ?_; clear S a; intro a S
                        refine l_pure S (p_assign rfl) rfl rfl rfl ?_; clear S a; intro a S
                        refine l_nil ?_
                        refine e_then ?_
                        refine wp_ret ?_
                        refine e_in_ret ?_
                        exact r_ret1 S rfl rfl (.inl ⟨hB.trans (rp.B_body hnt hsz (by grind) hmk (rp.body_no hm2)), q, r2, [], s1, _, _, _, _, rfl, by simpa using hr2, by omega, H.drop4⟩)
                · skip
                  refine ⟨_, rfl, ?_⟩; clear S a; intro a S; clear hcon; replace H := H.join hH; clear hH; rw [List.nil_append] at H
                  have hsz := rp.size_bad rfl h1
                  refine l_pure S (p_move rfl) rfl rfl rfl ?_; clear S a; intro a S
                  refine l_pure S (p_extract rfl rfl) rfl rfl rfl ?_; clear S a; intro a S
                  refine l_pure S (p_extract rfl rfl) rfl rfl rfl ?_; clear S a; intro a S
                  refine l_pure S (p_assign rfl) rfl rfl rfl ?_; clear S a; intro a S
                  refine l_pure S (p_assign rfl) rfl rfl rfl ?_; clear S a; intro a S
                  refine l_nil ?_
                  refine e_then ?_
                  refine wp_seq ?_
                  refine wp_seq ?_
                  refine c_region ?_
                  refine l_pure S (p_move rfl) rfl rfl rfl ?_; clear S a; intro a S
                  refine l_pure S (p_ifnilN mi49 rfl rfl) rfl rfl rfl ?_; clear S a; intro a S
                  refine l_nil ?_
                  refine e_then ?_
                  refine c_cond (b := true) S rfl (fun _ => ?_) (fun h => by cases h)
                  refine wp_seq ?_
                  refine c_region ?_
                  refine l_pure S (p_move rfl) rfl rfl rfl ?_; clear S a; intro a S
                  refine l_pure S (p_assign rfl) rfl rfl rfl ?_; clear S a; intro a S
                  refine l_nil ?_
                  refine e_then ?_
                  refine wp_ret ?_
                  refine e_then_ret ?_
                  refine e_in_ret ?_
                  exact r_ret1 S rfl rfl (.inl ⟨hB.trans (rp.B_no hnt hsz), q, _, R, s1, _, _, _, _, rfl, hw2, by omega, H.dropOwn⟩)
            · skip
              have c27 := bc27
              have hbl : rp.isBlob kd = false := hinv ▸ c27
              refine c_cut (fun a w => ∃ bm : Bool, SL a 132 [] [(0, .pointer (some ⟨grm, 0, none⟩)), (1, .iface 102 (.pointer (some ⟨g, 0, none⟩))), (7, .slice (some ⟨gb, offAt r1 cap 1, none⟩) b.length (cap - 1)), (8, .int .u8 kd), (42, .int .u8 kd), (123, .bool bm)] ∧ HH (wb.heap.size) wb w ((g, .cells #[.slice (some ⟨gb, 0, none⟩) 4096 4096, .iface 42 (.pointer (some ⟨gr, 0, none⟩)), .int .i64 ((r1 + (j + 1) : Nat) : Int), .int .i64 ((r1 + (j + 1) + R.length : Nat) : Int), .nilIface, .int .i64 lb1, .int .i64 lr1] 153 (0, 0)) :: (gb, .cells cs1 5 (0, 0)) :: (gr, .cells #[.string s1, .slice Az zs.length cz, .int .i64 (ap1 : Int), .bool false] 86 (0, 0)) :: (grm, .cells #[.slice A1 (l ++ Y.take (j + 1)).length c1] 62 (0, 0)) :: (ow1 ++ L0)) ∧ bm = (rp.isLine kd || kd == 46)) ?_ ?_
              · clear S a H; rintro a w ⟨bm, S, H, hinv⟩
                refine c_cond S rfl (fun bc58 => ?_) (fun bc58 => ?_)
                · skip
                  have c58 := bc58
                  have hln : kd = 46 ∨ rp.isLine kd = true := by rw [hinv] at c58; simp at c58; exact c58.symm
                  refine wp_seq ?_
                  refine c_region ?_
                  refine l_pure S (p_assign rfl) rfl rfl rfl ?_; clear S a; intro a S
                  refine l_nil ?_
                  refine e_then ?_
                  refine wp_ret ?_
                  refine e_in_ret ?_
                  exact r_ret1 S rfl rfl (.inr ⟨(j + 1), hB.trans (rp.B_line hln), by omega, rfl, _, _, ow1, cs1, _, s1, ap1, _, _, hown1, hcs1, by rw [hR]; exact hrow2, by rw [hR]; exact hw2, hs1, by omega, by rw [hR]; exact H⟩)
                · skip
                  have c58 := bc58
                  have hln : ¬ (kd = 46 ∨ rp.isLine kd = true) := by rw [hinv] at c58; simp at c58; exact fun h => h.elim c58.2 (fun h2 => by rw [c58.1] at h2; cases h2)
                  refine wp_seq ?_
                  refine c_region ?_
                  have hcon := re.new_ _ _ _ _ (⟨#[117, 110, 107, 110, 111, 119, 110, 32, 116, 121, 112, 101, 32, 112, 114, 101, 102, 105, 120, 32, 46, 46]⟩) H
                  refine l_call S rfl rfl Tryd.func52 rfl rfl (hcon) rfl rfl rfl ?_
                  rintro e w ⟨q, rfl, hH⟩
                  refine ⟨_, rfl, ?_⟩; clear S a; intro a S
                  clear H hcon; have H := hH; clear hH
                  refine l_pure S (p_assign rfl) rfl rfl rfl ?_; clear S a; intro a S
                  refine l_nil ?_
                  refine e_then ?_
                  refine wp_ret ?_
                  refine e_in_ret ?_
                  exact r_ret1 S rfl rfl (.inl ⟨hB.trans (rp.B_unk hln ⟨hmk, hbl⟩), q, _, R, s1, _, _, _, _, rfl, hw2, by omega, H.dropOwn⟩)
              · skip
                refine wp_seq ?_
                refine c_region ?_
                refine l_pure S (p_eql rfl rfl) rfl rfl rfl ?_; clear S a; intro a S
                refine l_pure S (p_assign rfl) rfl rfl rfl ?_; clear S a; intro a S
                refine l_nil ?_
                refine e_then ?_
                refine c_cond S rfl (fun bc60 => ?_) (fun bc60 => ?_)
                · skip
                  have c60 := bc60
                  have c60 := eq_of_beq c60
                  refine wp_skip ?_
                  refine e_then ?_
                  exact ⟨_, S.only ⟨rfl, rfl, rfl, rfl, rfl, rfl, trivial⟩, H, (by simp [rp.isLine, *] <;> rfl)⟩
                · skip
                  have c60 := bc60
                  have c60 := ne_of_beq_false c60
                  refine wp_seq ?_
                  refine c_region ?_
                  refine l_pure S (p_eql rfl rfl) rfl rfl rfl ?_; clear S a; intro a S
                  refine l_pure S (p_assign rfl) rfl rfl rfl ?_; clear S a; intro a S
                  refine l_nil ?_
                  refine e_then ?_
                  refine c_cond S rfl (fun bc62 => ?_) (fun bc62 => ?_)
                  · skip
                    have c62 := bc62
                    have c62 := eq_of_beq c62
                    refine wp_skip ?_
                    refine e_then ?_
                    exact ⟨_, S.only ⟨rfl, rfl, rfl, rfl, rfl, rfl, trivial⟩, H, (by simp [rp.isLine, *] <;> rfl)⟩
                  · skip
                    have c62 := bc62
                    have c62 := ne_of_beq_false c62
                    refine wp_seq ?_
                    refine c_region ?_
                    refine l_pure S (p_eql rfl rfl) rfl rfl rfl ?_; clear S a; intro a S
                    refine l_pure S (p_assign rfl) rfl rfl rfl ?_; clear S a; intro a S
                    refine l_nil ?_
                    refine e_then ?_
                    refine c_cond S rfl (fun bc64 => ?_) (fun bc64 => ?_)
                    · skip
                      have c64 := bc64
                      have c64 := eq_of_beq c64
                      refine wp_skip ?_
                      refine e_then ?_
                      exact ⟨_, S.only ⟨rfl, rfl, rfl, rfl, rfl, rfl, trivial⟩, H, (by simp [rp.isLine, *] <;> rfl)⟩
                    · skip
                      have c64 := bc64
                      have c64 := ne_of_beq_false c64
                      refine wp_seq ?_
                      refine c_region ?_
                      refine l_pure S (p_eql rfl rfl) rfl rfl rfl ?_; clear S a; intro a S
                      refine l_pure S (p_assign rfl) rfl rfl rfl ?_; clear S a; intro a S
                      refine l_nil ?_
                      refine e_then ?_
                      refine c_cond S rfl (fun bc66 => ?_) (fun bc66 => ?_)
                      · skip
                        have c66 := bc66
                        have c66 := eq_of_beq c66
                        refine wp_skip ?_
                        refine e_then ?_
                        exact ⟨_, S.only ⟨rfl, rfl, rfl, rfl, rfl, rfl, trivial⟩, H, (by simp [rp.isLine, *] <;> rfl)⟩
                      · skip
                        have c66 := bc66
                        have c66 := ne_of_beq_false c66
                        refine wp_seq ?_
                        refine c_region ?_
                        refine l_pure S (p_eql rfl rfl) rfl rfl rfl ?_; clear S a; intro a S
                        refine l_pure S (p_assign rfl) rfl rfl rfl ?_; clear S a; intro a S
                        refine l_nil ?_
                        refine e_then ?_
                        refine c_cond S rfl (fun bc68 => ?_) (fun bc68 => ?_)
                        · skip
                          have c68 := bc68
                          have c68 := eq_of_beq c68
                          refine wp_skip ?_
                          refine e_then ?_
                          exact ⟨_, S.only ⟨rfl, rfl, rfl, rfl, rfl, rfl, trivial⟩, H, (by simp [rp.isLine, *] <;> rfl)⟩
                        · skip
                          have c68 := bc68
                          have c68 := ne_of_beq_false c68
                          refine wp_seq ?_
                          refine c_region ?_
                          refine l_pure S (p_eql rfl rfl) rfl rfl rfl ?_; clear S a; intro a S
                          refine l_pure S (p_assign rfl) rfl rfl rfl ?_; clear S a; intro a S
                          refine l_nil ?_
                          refine e_then ?_
                          refine c_cond S rfl (fun bc70 => ?_) (fun bc70 => ?_)
                          · skip
                            have c70 := bc70
                            have c70 := eq_of_beq c70
                            refine wp_skip ?_
                            refine e_then ?_
                            exact ⟨_, S.only ⟨rfl, rfl, rfl, rfl, rfl, rfl, trivial⟩, H, (by simp [rp.isLine, *] <;> rfl)⟩
                          · skip
                            have c70 := bc70
                            have c70 := ne_of_beq_false c70
                            refine wp_seq ?_
                            refine c_region ?_
                            refine l_pure S (p_eql rfl rfl) rfl rfl rfl ?_; clear S a; intro a S
                            refine l_pure S (p_assign rfl) rfl rfl rfl ?_; clear S a; intro a S
                            refine l_nil ?_
                            refine e_then ?_
                            refine c_cond S rfl (fun bc72 => ?_) (fun bc72 => ?_)
                            · skip
                              have c72 := bc72
                              have c72 := eq_of_beq c72
                              refine wp_skip ?_
                              refine e_then ?_
                              exact ⟨_, S.only ⟨rfl, rfl, rfl, rfl, rfl, rfl, trivial⟩, H, (by simp [rp.isLine, *] <;> rfl)⟩
                            · skip
                              have c72 := bc72
                              have c72 := ne_of_beq_false c72
                              refine c_region ?_
                              refine l_pure S (p_eql rfl rfl) rfl rfl rfl ?_; clear S a; intro a S
                              refine l_pure S (p_assign rfl) rfl rfl rfl ?_; clear S a; intro a S
                              refine l_nil ?_
                              refine e_then ?_
                              exact ⟨_, S.only ⟨rfl, rfl, rfl, rfl, rfl, rfl, trivial⟩, H, (by simp [rp.isLine, *] <;> rfl)⟩
          · skip
            refine wp_seq ?_
            refine c_region ?_
            refine l_pure S (p_eql rfl rfl) rfl rfl rfl ?_; clear S a; intro a S
            refine l_pure S (p_assign rfl) rfl rfl rfl ?_; clear S a; intro a S
            refine l_nil ?_
            refine e_then ?_
            refine c_cond S rfl (fun bc75 => ?_) (fun bc75 => ?_)
            · skip
              have c75 := bc75
              have c75 := eq_of_beq c75
              refine wp_skip ?_
              refine e_then ?_
              exact ⟨_, S.only ⟨rfl, rfl, rfl, rfl, rfl, rfl, trivial⟩, H, (by simp [rp.isBlob, *] <;> rfl)⟩
            · skip
              have c75 := bc75
              have c75 := ne_of_beq_false c75
              refine wp_seq ?_
              refine c_region ?_
              refine l_pure S (p_eql rfl rfl) rfl rfl rfl ?_; clear S a; intro a S
              refine l_pure S (p_assign rfl) rfl rfl rfl ?_; clear S a; intro a S
              refine l_nil ?_
              refine e_then ?_
              refine c_cond S rfl (fun bc77 => ?_) (fun bc77 => ?_)
              · skip
                have c77 := bc77
                have c77 := eq_of_beq c77
                refine wp_skip ?_
                refine e_then ?_
                exact ⟨_, S.only ⟨rfl, rfl, rfl, rfl, rfl, rfl, trivial⟩, H, (by simp [rp.isBlob, *] <;> rfl)⟩
              · skip
                have c77 := bc77
                have c77 := ne_of_beq_false c77
                refine wp_seq ?_
                refine c_region ?_
                refine l_pure S (p_eql rfl rfl) rfl rfl rfl ?_; clear S a; intro a S
                refine l_pure S (p_assign rfl) rfl rfl rfl ?_; clear S a; intro a S
                refine l_nil ?_
                refine e_then ?_
                refine c_cond S rfl (fun bc79 => ?_) (fun bc79 => ?_)
                · skip
                  have c79 := bc79
                  have c79 := eq_of_beq c79
                  refine wp_skip ?_
                  refine e_then ?_
                  exact ⟨_, S.only ⟨rfl, rfl, rfl, rfl, rfl, rfl, trivial⟩, H, (by simp [rp.isBlob, *] <;> rfl)⟩
                · skip
                  have c79 := bc79
                  have c79 := ne_of_beq_false c79
                  refine c_region ?_
                  refine l_pure S (p_eql rfl rfl) rfl rfl rfl ?_; clear S a; intro a S
                  refine l_pure S (p_assign rfl) rfl rfl rfl ?_; clear S a; intro a S
                  refine l_nil ?_
                  refine e_then ?_
                  exact ⟨_, S.only ⟨rfl, rfl, rfl, rfl, rfl, rfl, trivial⟩, H, (by simp [rp.isBlob, *] <;> rfl)⟩
      · skip
        refine wp_seq ?_
        refine c_region ?_
        refine l_pure S (p_eql rfl rfl) rfl rfl rfl ?_; clear S a; intro a S
        refine l_pure S (p_assign rfl) rfl rfl rfl ?_; clear S a; intro a S
        refine l_nil ?_
        refine e_then ?_
        refine c_cond S rfl (fun bc82 => ?_) (fun bc82 => ?_)
        · skip
          have c82 := bc82
          have c82 := eq_of_beq c82
          refine wp_skip ?_
          refine e_then ?_
          exact ⟨_, S.only ⟨rfl, rfl, rfl, rfl, rfl, rfl, trivial⟩, H, (by simp [rp.many, *] <;> rfl)⟩
        · skip
          have c82 := bc82
          have c82 := ne_of_beq_false c82
          refine wp_seq ?_
          refine c_region ?_
          refine l_pure S (p_eql rfl rfl) rfl rfl rfl ?_; clear S a; intro a S
          refine l_pure S (p_assign rfl) rfl rfl rfl ?_; clear S a; intro a S
          refine l_nil ?_
          refine e_then ?_
          refine c_cond S rfl (fun bc84 => ?_) (fun bc84 => ?_)
          · skip
            have c84 := bc84
            have c84 := eq_of_beq c84
            refine wp_skip ?_
            refine e_then ?_
            exact ⟨_, S.only ⟨rfl, rfl, rfl, rfl, rfl, rfl, trivial⟩, H, (by simp [rp.many, *] <;> rfl)⟩
          · skip
            have c84 := bc84
            have c84 := ne_of_beq_false c84
            refine wp_seq ?_
            refine c_region ?_
            refine l_pure S (p_eql rfl rfl) rfl rfl rfl ?_; clear S a; intro a S
            refine l_pure S (p_assign rfl) rfl rfl rfl ?_; clear S a; intro a S
            refine l_nil ?_
            refine e_then ?_
            refine c_cond S rfl (fun bc86 => ?_) (fun bc86 => ?_)
            · skip
              have c86 := bc86
              have c86 := eq_of_beq c86
              refine wp_skip ?_
              refine e_then ?_
              exact ⟨_, S.only ⟨rfl, rfl, rfl, rfl, rfl, rfl, trivial⟩, H, (by simp [rp.many, *] <;> rfl)⟩
            · skip
              have c86 := bc86
              have c86 := ne_of_beq_false c86
              refine wp_seq ?_
              refine c_region ?_
              refine l_pure S (p_eql rfl rfl) rfl rfl rfl ?_; clear S a; intro a S
              refine l_pure S (p_assign rfl) rfl rfl rfl ?_; clear S a; intro a S
              refine l_nil ?_
              refine e_then ?_
              refine c_cond S rfl (fun bc88 => ?_) (fun bc88 => ?_)
              · skip
                have c88 := bc88
                have c88 := eq_of_beq c88
                refine wp_skip ?_
                refine e_then ?_
                exact ⟨_, S.only ⟨rfl, rfl, rfl, rfl, rfl, rfl, trivial⟩, H, (by simp [rp.many, *] <;> rfl)⟩
              · skip
                have c88 := bc88
                have c88 := ne_of_beq_false c88
                refine c_region ?_
                refine l_pure S (p_eql rfl rfl) rfl rfl rfl ?_; clear S a; intro a S
                refine l_pure S (p_assign rfl) rfl rfl rfl ?_; clear S a; intro a S
                refine l_nil ?_
                refine e_then ?_
                exact ⟨_, S.only ⟨rfl, rfl, rfl, rfl, rfl, rfl, trivial⟩, H, (by simp [rp.many, *] <;> rfl)⟩
theorem um_ : ∀ k, UMC k
  | 0 => by intro wb w0 L0 g gb gr grm cs r vis s Az zs cz ap lb lr A c l Y ow ae hE hlt qe hU hltU H hcs hrow hw hC hzs ha hfit hst hbr hY hown hl hne; exact absurd rfl hne
  | k + 1 => um_step k (um_ k)
end ru
end Go.Proofs.YtnmelglnkefjfaaDoor.rr
