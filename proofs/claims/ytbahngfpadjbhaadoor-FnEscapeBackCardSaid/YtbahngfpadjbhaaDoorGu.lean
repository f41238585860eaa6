/- The decoder takes a token. -/
import Derived.Test.YtbahngfpadjbhaaDoorTs
import Derived.Test.YtbahngfpadjbhaaDoorGt
import Derived.Test.YtbahngfpadjbhaaDoorGv
import Derived.Test.YtbahngfpadjbhaaDoorGs
import Derived.Test.YtbahngfpadjbhaaDoorGo
namespace Go.Proofs.YtbahngfpadjbhaaDoor.dec
open Go.RowKit Go.Proofs.HHW Go.Proofs.YtbahngfpadjbhaaDoorW.PrintWords
set_option linter.unusedVariables false
set_option linter.unusedSimpArgs false
namespace gu
theorem ag2 : aggB Tryd.prog 2 = some false := by kernel_rfl
theorem ag3 : aggB Tryd.prog 3 = some false := by kernel_rfl
theorem ag32 : aggB Tryd.prog 32 = some false := by kernel_rfl
theorem ag4 : aggB Tryd.prog 4 = some false := by kernel_rfl
theorem ag5 : aggB Tryd.prog 5 = some false := by kernel_rfl
theorem fa54_1 (w : World) (g o : Nat) : (Instr.fieldAt 54 (.pointer (some ⟨g, o, none⟩)) 1).run Tryd.prog w = .ok (.pointer (some ⟨g, o + 1, none⟩)) w := by kernel_rfl
theorem fa54_2 (w : World) (g o : Nat) : (Instr.fieldAt 54 (.pointer (some ⟨g, o, none⟩)) 2).run Tryd.prog w = .ok (.pointer (some ⟨g, o + 2, none⟩)) w := by kernel_rfl
theorem fa54_3 (w : World) (g o : Nat) : (Instr.fieldAt 54 (.pointer (some ⟨g, o, none⟩)) 3).run Tryd.prog w = .ok (.pointer (some ⟨g, o + 3, none⟩)) w := by kernel_rfl
theorem fa54_6 (w : World) (g o : Nat) : (Instr.fieldAt 54 (.pointer (some ⟨g, o, none⟩)) 6).run Tryd.prog w = .ok (.pointer (some ⟨g, o + 6, none⟩)) w := by kernel_rfl
theorem fa54_7 (w : World) (g o : Nat) : (Instr.fieldAt 54 (.pointer (some ⟨g, o, none⟩)) 7).run Tryd.prog w = .ok (.pointer (some ⟨g, o + 7, none⟩)) w := by kernel_rfl
theorem fa54_8 (w : World) (g o : Nat) : (Instr.fieldAt 54 (.pointer (some ⟨g, o, none⟩)) 8).run Tryd.prog w = .ok (.pointer (some ⟨g, o + 8, none⟩)) w := by kernel_rfl
theorem sz2 : szB Tryd.prog 2 = some 1 := by kernel_rfl
theorem sz3 : szB Tryd.prog 3 = some 1 := by kernel_rfl
theorem sz32 : szB Tryd.prog 32 = some 1 := by kernel_rfl
theorem sz5 : szB Tryd.prog 5 = some 1 := by kernel_rfl
theorem zv5 : zvB Tryd.prog 5 = some (.int .u8 0) := by kernel_rfl
theorem in5 : (Tryd.prog.info? 5).map (fun i => (i.zero, i.size, i.bytes)) = some (some (.int .u8 0), 1, 1) := by kernel_rfl

theorem validL_ (w0 : World) (A : Option Addr) (c : Nat) (l : List Int) (hby : ∀ x ∈ l, 0 ≤ x ∧ x < 256) (hsb : SB w0 A c l) (hs : l.length ≤ 1000000000) (hT : Lib.Utf8Tabs 0 1 w0) : Calls Tryd.prog 39 #[.slice A l.length c] w0 fun e w' => e = .returned (.bool (up.V (strOfNums l) 0)) ∧ Below w0.heap.size w0 w' := by
 have e1 := ints_nums hby
 have h := gv.valid_ w0 A c (strOfNums l) (by rw [e1]; exact hsb) (by rw [← ints_len, e1]; exact hs) hT
 rw [e1] at h
 exact h
set_option maxHeartbeats 4000000 in
theorem takeEsc_ (wb w0 : World) (D0 L0 E0 : dc.Bk) (g gs ge : Nat) (X : List Int) (p0 v0 : Nat) (cm0 : Bool) (M0 : Nat) (sec : Int) (sk : Bool) (line : Nat) (er : Value) (sp : Nat → Bool) (hh : Nat → Nat) (ec : Array Value) (el : List Int) (A0 : Option Addr) (c0 : Nat) (hD0 : dc.Dec TY wb g X p0 v0 cm0 M0 sec sk (.slice A0 el.length c0) line er D0) (hOw0 : OwnB 5 (.slice A0 el.length c0) el E0) (H : HH wb.heap.size wb w0 (D0 ++ (E0 ++ L0))) (hgs : (gs, Obj.cells (vec sp).toArray 99 (0, 0)) ∈ L0) (hge : (ge, Obj.cells ec 65 (0, 0)) ∈ L0) (hec : ∀ j, j < 256 → ec[256 + j]? = some (.int .u8 (hh j : Int))) (hhb : ∀ j, hh j < 256) (hXb : ∀ x ∈ X, 0 ≤ x ∧ x < 256) (hel : el.length ≤ 100000000) (hT : Lib.Utf8Tabs 0 1 wb) (hl : line ≤ 100000000000) (hXl : X.length ≤ 900000) (ae : Addr) (hE : wb.cell? ⟨2, 0, none⟩ = some (.iface 89 (.pointer (some ae)))) (hlt : 2 < wb.heap.size) : Calls Tryd.prog 25 #[.pointer (some ⟨g, 0, none⟩), .pointer (some ⟨gs, 0, none⟩), .pointer (some ⟨ge, 256, none⟩)] w0 fun e w' => ∃ (A' : Option Addr) (c' : Nat) (err : Value) (Ae : Option Addr) (ce : Nat) (ys : List Int) (v' : Nat) (cm' : Bool) (M' : Nat) (D' E' G : dc.Bk) (sec' : Int), e = .returned (.tuple #[.slice A' (tx sp hh sk X p0).length c', .int .i64 (p0 : Int), err]) ∧ dc.Dec TY wb g X (p0 + (tk sp hh (X.drop p0)).2) v' cm' M' sec' sk (.slice Ae ys.length ce) (lnT sp X p0 (p0 + (tk sp hh (X.drop p0)).2) line) er D' ∧ OwnB 5 (.slice Ae ys.length ce) ys E' ∧ (∃ xs, ys = el ++ xs ∧ xs.length ≤ 2 * X.length) ∧ HH wb.heap.size wb w' (D' ++ (G ++ (E' ++ L0))) ∧ dc.Keeps D0 D' G ∧ KeepsE (.slice A0 el.length c0) E0 (.slice Ae ys.length ce) E' G ∧ (p0 + (tk sp hh (X.drop p0)).2) ≤ v' ∧ HeldT D' E' (.slice Ae ys.length ce) A' (tx sp hh sk X p0) ∧ (tx sp hh sk X p0).length ≤ c' ∧ FaultT (tx sp hh sk X p0) err sec sec' (lnT sp X p0 (p0 + (tk sp hh (X.drop p0)).2) line : Int) X p0 (p0 + (tk sp hh (X.drop p0)).2) 88 86 G := by
 obtain ⟨rd, A, l, c, r0, mb, mr, hDe, hbuf, hrd, hr0, hvX, hdr, hsz, hpX⟩ := id hD0
 rw [hDe] at H
 replace H := dc.open_.1 H
 refine c_enter (args := [.pointer (some ⟨g, 0, none⟩), .pointer (some ⟨gs, 0, none⟩), .pointer (some ⟨ge, 256, none⟩)]) (k := 239) Tryd.func25 rfl rfl rfl (fun a S => ?_)
 refine wp_seq ?_
 refine c_region ?_
 refine l_pure S (p_assign rfl) rfl rfl rfl ?_; clear S a; intro a S
 refine l_pure S (p_assign rfl) rfl rfl rfl ?_; clear S a; intro a S
 refine l_pure S (p_assign rfl) rfl rfl rfl ?_; clear S a; intro a S
 refine l_nil ?_
 refine e_then ?_
 refine c_scope ?_
 refine wp_seq ?_
 refine d_start (id := 1) [] 10 #[false, false, false, false, false, false, false, false, false, false] H rfl rfl rfl (fun w H => ?_)
 refine d_pure (i := 0) #[true, false, false, false, false, false, false, false, false, false] S rfl (p_move rfl) (wanted_none rfl) rfl rfl (by kernel_rfl) (fun _ _ _ h => h) ?_; clear S a; intro a S
 refine d_pure (i := 1) #[true, true, false, false, false, false, false, false, false, false] S rfl (p_nilCheck rfl) (wanted_none rfl) rfl rfl (by kernel_rfl) (fun _ _ _ h => h) ?_; clear S a; intro a S
 refine d_pure (i := 2) #[true, true, true, false, false, false, false, false, false, false] S rfl (p_fieldAddr rfl (fun w => fa54_3 w _ _)) (wanted_none rfl) rfl rfl (by kernel_rfl) (fun _ _ _ h => h) ?_; clear S a; intro a S
 refine d_read (i := 3) #[true, true, true, true, false, false, false, false, false, false] S H rfl (r_load rfl List.mem_cons_self rfl (fun w hc => ld1 ag3 hc)) (wanted_none rfl) rfl rfl (by kernel_rfl) (fun _ _ _ h => h) ?_; clear S a; intro a S
 refine d_pure (i := 4) #[true, true, true, true, true, false, false, false, false, false] S rfl (p_move rfl) (wanted_none rfl) rfl rfl (by kernel_rfl) (fun _ _ _ h => h) ?_; clear S a; intro a S
 refine d_pure (i := 5) #[true, true, true, true, true, true, false, false, false, false] S rfl (p_nilCheck rfl) (wanted_none rfl) rfl rfl (by kernel_rfl) (fun _ _ _ h => h) ?_; clear S a; intro a S
 refine d_pure (i := 6) #[true, true, true, true, true, true, true, false, false, false] S rfl (p_fieldAddr rfl (fun w => fa54_2 w _ _)) (wanted_none rfl) rfl rfl (by kernel_rfl) (fun _ _ _ h => h) ?_; clear S a; intro a S
 refine d_read (i := 7) #[true, true, true, true, true, true, true, true, false, false] S H rfl (r_load rfl List.mem_cons_self rfl (fun w hc => ld1 ag3 hc)) (wanted_none rfl) rfl rfl (by kernel_rfl) (fun _ _ _ h => h) ?_; clear S a; intro a S
 refine d_pure (i := 8) #[true, true, true, true, true, true, true, true, true, false] S rfl (p_sub (r := (p0 : Int)) rfl rfl ((IntWalk.i64_in _ (by omega)).trans (by omega))) (wanted_none rfl) rfl rfl (by kernel_rfl) (fun _ _ _ h => h) ?_; clear S a; intro a S
 refine d_pure (i := 9) #[true, true, true, true, true, true, true, true, true, true] S rfl (p_assign rfl) (wanted_none rfl) rfl rfl (by kernel_rfl) (fun _ _ _ h => h) ?_; clear S a; intro a S
 refine d_done (by kernel_rfl) ?_
 refine e_then ?_
 refine wp_seq ?_
 refine c_region ?_
 refine l_pure S (p_move rfl) rfl rfl rfl ?_; clear S a; intro a S
 refine l_pure S (p_assign rfl) rfl rfl rfl ?_; clear S a; intro a S
 refine l_nil ?_
 refine e_then ?_
 refine wp_seq ?_
 refine c_region ?_
 refine l_pure S (p_move rfl) rfl rfl rfl ?_; clear S a; intro a S
 refine l_pure S (p_nilCheck rfl) rfl rfl rfl ?_; clear S a; intro a S
 refine l_pure S (p_fieldAddr rfl (fun w => fa54_7 w _ _)) rfl rfl rfl ?_; clear S a; intro a S
 refine l_read S H (r_load rfl List.mem_cons_self rfl (fun w hc => ld1 ag32 hc)) rfl rfl rfl ?_; clear S a; intro a S
 refine l_pure S (p_len Tryd.underlying32 rfl) rfl rfl rfl ?_; clear S a; intro a S
 refine l_pure S (p_assign rfl) rfl rfl rfl ?_; clear S a; intro a S
 refine l_nil ?_
 refine e_then ?_
 refine wp_seq ?_
 refine c_label ?_
 refine e_then ?_
 replace H := dc.open_.2 H
 rw [← hDe] at H
 clear hbuf hrd hr0 hvX hdr hDe hsz
 refine c_cut (fun a w => ∃ q : Nat, ∃ se : Nat, ∃ v : Nat, ∃ cm : Bool, ∃ M : Nat, ∃ D : dc.Bk, ∃ G : dc.Bk, ∃ E : dc.Bk, ∃ Ae : Option Addr, ∃ ce : Nat, ∃ ys : List Int, ∃ xs : List Int, SL a 242 [] [(0, .pointer (some ⟨g, 0, none⟩)), (1, .pointer (some ⟨gs, 0, none⟩)), (2, .pointer (some ⟨ge, 256, none⟩)), (9, .int .i64 (p0 : Int)), (10, .int .i64 (se : Int)), (11, .int .i64 (el.length : Int))] ∧ HH (wb.heap.size) wb w (D ++ (G ++ (E ++ L0))) ∧ dc.Dec TY wb g X q v cm M sec sk (.slice Ae ys.length ce) line er D ∧ OwnB 5 (.slice Ae ys.length ce) ys E ∧ dc.Keeps D0 D G ∧ KeepsE (.slice A0 el.length c0) E0 (.slice Ae ys.length ce) E G ∧ ys = el ++ xs ∧ TkE sp hh sk X p0 q se xs ∧ q ≤ v) ?_ ?_
 ·
  clear S a H; rintro a w ⟨q, se, v, cm, M, D, G, E, Ae, ce, ys, xs, S, H, hinv⟩
  obtain ⟨hD, hOw, hK, hKE, hys, hI, hqv⟩ := hinv
  have hxl := hI.xs_le
  have hyl : ys.length = el.length + xs.length := by rw [hys, List.length_append]
  have hI1 := hI.1
  have hI2 := hI.2.1
  obtain ⟨rd, A, l, c, r0, mb, mr, hDe, hbuf, hrd, hr0, hvX, hdr, hsz, hpX⟩ := id hD
  subst hDe
  replace H := dc.open_.1 H
  have hlc := hbuf.1
  refine wp_seq ?_
  refine d_start (id := 25) [] 16 #[false, false, false, false, false, false, false, false, false, false, false, false, false, false, false, false] H rfl rfl rfl (fun w H => ?_)
  refine d_pure (i := 0) #[true, false, false, false, false, false, false, false, false, false, false, false, false, false, false, false] S rfl (p_move rfl) (wanted_none rfl) rfl rfl (by kernel_rfl) (fun _ _ _ h => h) ?_; clear S a; intro a S
  refine d_pure (i := 1) #[true, true, false, false, false, false, false, false, false, false, false, false, false, false, false, false] S rfl (p_nilCheck rfl) (wanted_none rfl) rfl rfl (by kernel_rfl) (fun _ _ _ h => h) ?_; clear S a; intro a S
  refine d_pure (i := 2) #[true, true, true, false, false, false, false, false, false, false, false, false, false, false, false, false] S rfl (p_fieldAddr rfl (fun w => fa54_1 w _ _)) (wanted_none rfl) rfl rfl (by kernel_rfl) (fun _ _ _ h => h) ?_; clear S a; intro a S
  refine d_read (i := 3) #[true, true, true, true, false, false, false, false, false, false, false, false, false, false, false, false] S H rfl (r_load rfl List.mem_cons_self rfl (fun w hc => ld1 ag32 hc)) (wanted_none rfl) rfl rfl (by kernel_rfl) (fun _ _ _ h => h) ?_; clear S a; intro a S
  refine d_pure (i := 4) #[true, true, true, true, true, false, false, false, false, false, false, false, false, false, false, false] S rfl (p_move rfl) (wanted_none rfl) rfl rfl (by kernel_rfl) (fun _ _ _ h => h) ?_; clear S a; intro a S
  refine d_pure (i := 5) #[true, true, true, true, true, true, false, false, false, false, false, false, false, false, false, false] S rfl (p_nilCheck rfl) (wanted_none rfl) rfl rfl (by kernel_rfl) (fun _ _ _ h => h) ?_; clear S a; intro a S
  refine d_pure (i := 6) #[true, true, true, true, true, true, true, false, false, false, false, false, false, false, false, false] S rfl (p_fieldAddr rfl (fun w => fa54_2 w _ _)) (wanted_none rfl) rfl rfl (by kernel_rfl) (fun _ _ _ h => h) ?_; clear S a; intro a S
  refine d_read (i := 7) #[true, true, true, true, true, true, true, true, false, false, false, false, false, false, false, false] S H rfl (r_load rfl List.mem_cons_self rfl (fun w hc => ld1 ag3 hc)) (wanted_none rfl) rfl rfl (by kernel_rfl) (fun _ _ _ h => h) ?_; clear S a; intro a S
  refine d_pure (i := 8) #[true, true, true, true, true, true, true, true, true, false, false, false, false, false, false, false] S rfl (p_move rfl) (wanted_none rfl) rfl rfl (by kernel_rfl) (fun _ _ _ h => h) ?_; clear S a; intro a S
  refine d_pure (i := 9) #[true, true, true, true, true, true, true, true, true, true, false, false, false, false, false, false] S rfl (p_add rfl rfl (nat_add (x := r0) (y := p0) (by omega))) (wanted_none rfl) rfl rfl (by kernel_rfl) (fun _ _ _ h => h) ?_; clear S a; intro a S
  refine d_pure (i := 10) #[true, true, true, true, true, true, true, true, true, true, true, false, false, false, false, false] S rfl (p_move rfl) (wanted_none rfl) rfl rfl (by kernel_rfl) (fun _ _ _ h => h) ?_; clear S a; intro a S
  refine d_pure (i := 11) #[true, true, true, true, true, true, true, true, true, true, true, true, false, false, false, false] S rfl (p_nilCheck rfl) (wanted_none rfl) rfl rfl (by kernel_rfl) (fun _ _ _ h => h) ?_; clear S a; intro a S
  refine d_pure (i := 12) #[true, true, true, true, true, true, true, true, true, true, true, true, true, false, false, false] S rfl (p_fieldAddr rfl (fun w => fa54_3 w _ _)) (wanted_none rfl) rfl rfl (by kernel_rfl) (fun _ _ _ h => h) ?_; clear S a; intro a S
  refine d_read (i := 13) #[true, true, true, true, true, true, true, true, true, true, true, true, true, true, false, false] S H rfl (r_load rfl List.mem_cons_self rfl (fun w hc => ld1 ag3 hc)) (wanted_none rfl) rfl rfl (by kernel_rfl) (fun _ _ _ h => h) ?_; clear S a; intro a S
  refine d_pure (i := 14) #[true, true, true, true, true, true, true, true, true, true, true, true, true, true, true, false] S rfl (p_slice rfl (o_some rfl) (o_some rfl) (fun _ _ => o_none) (fun w => sl_sb (m := r0 + p0) (h := r0 + q) Tryd.underlying32 sz5 rfl rfl (by omega) (by omega) hbuf.1)) (wanted_none rfl) rfl rfl (by kernel_rfl) (fun _ _ _ h => h) ?_; clear S a; intro a S
  rw [seg_eq p0 hdr (b := q) (by omega)] at S
  refine d_pure (i := 15) #[true, true, true, true, true, true, true, true, true, true, true, true, true, true, true, true] S rfl (p_assign rfl) (wanted_none rfl) rfl rfl (by kernel_rfl) (fun _ _ _ h => h) ?_; clear S a; intro a S
  refine d_done (by kernel_rfl) ?_
  refine e_then ?_
  refine wp_seq ?_
  refine wp_seq ?_
  refine c_region ?_
  refine l_pure S (p_move rfl) rfl rfl rfl ?_; clear S a; intro a S
  have hcon := st.bget wb _ _ _ gs 10 sp (by omega) (List.mem_cons_of_mem _ (List.mem_append_right _ (List.mem_append_right _ (List.mem_append_right _ (List.mem_append_right _ hgs))))) H
  refine l_call S rfl rfl Tryd.func37 rfl rfl (hcon) rfl rfl rfl ?_
  rintro e w ⟨rfl, hH⟩
  refine ⟨_, rfl, ?_⟩; clear S a; intro a S
  clear H hcon; have H := hH; clear hH
  refine l_nil ?_
  refine e_then ?_
  refine c_cond S rfl (fun bc2 => ?_) (fun bc2 => ?_)
  ·
   have c2 := bc2
   have hln : lnT sp X p0 q line = line + cnt 10 ((X.take q).drop p0) := by unfold lnT; rw [if_pos c2]
   refine d_start (id := 27) [9] 10 #[false, false, false, false, false, false, false, false, false, false] H rfl rfl rfl (fun w H => ?_)
   refine d_pure (i := 0) #[true, false, false, false, false, false, false, false, false, false] S rfl (p_move rfl) (wanted_none rfl) rfl rfl (by kernel_rfl) (fun _ _ _ h => h) ?_; clear S a; intro a S
   refine d_pure (i := 1) #[true, true, false, false, false, false, false, false, false, false] S rfl (p_nilCheck rfl) (wanted_none rfl) rfl rfl (by kernel_rfl) (fun _ _ _ h => h) ?_; clear S a; intro a S
   refine d_pure (i := 2) #[true, true, true, false, false, false, false, false, false, false] S rfl (p_fieldAddr rfl (fun w => fa54_8 w _ _)) (wanted_none rfl) rfl rfl (by kernel_rfl) (fun _ _ _ h => h) ?_; clear S a; intro a S
   refine d_read (i := 3) #[true, true, true, true, false, false, false, false, false, false] S H rfl (r_load rfl List.mem_cons_self rfl (fun w hc => ld1 ag2 hc)) (wanted_none rfl) rfl rfl (by kernel_rfl) (fun _ _ _ h => h) ?_; clear S a; intro a S
   refine d_pure (i := 4) #[true, true, true, true, true, false, false, false, false, false] S rfl (p_move rfl) (wanted_none rfl) rfl rfl (by kernel_rfl) (fun _ _ _ h => h) ?_; clear S a; intro a S
   have hsr : SB _ _ _ ((X.take q).drop p0) := (seg_eq p0 hdr (b := q) (by omega)) ▸ (SB.buf hbuf H).cut (m := r0 + p0) (j := r0 + q) (by omega) (by omega)
   have hcon := gt.count_ _ _ _ ((X.take q).drop p0) 10 hsr (by rw [cut_len (by omega)]; omega)
   have hcl := cnt_le 10 ((X.take q).drop p0)
   rw [cut_len (by omega)] at hcl
   refine d_call (i := 5) #[true, true, true, true, true, true, false, false, false, false] S rfl rfl rfl Tryd.func38 rfl rfl (hcon) (wanted_none rfl) rfl rfl (by kernel_rfl) rfl ?_
   rintro e w ⟨rfl, hb⟩
   refine ⟨_, rfl, H.later hb, ?_⟩; replace H := H.later hb; clear hb hcon hsr; clear S a; intro a S
   refine d_pure (i := 6) #[true, true, true, true, true, true, true, false, false, false] S rfl (p_add rfl rfl (nat_add (x := line) (y := ((cnt 10 ((X.take q).drop p0)))) (by omega))) (wanted_none rfl) rfl rfl (by kernel_rfl) (fun _ _ _ h => h) ?_; clear S a; intro a S
   refine d_pure (i := 7) #[true, true, true, true, true, true, true, true, false, false] S rfl (p_nilCheck rfl) (wanted_none rfl) rfl rfl (by kernel_rfl) (fun _ _ _ h => h) ?_; clear S a; intro a S
   refine d_pure (i := 8) #[true, true, true, true, true, true, true, true, true, false] S rfl (p_fieldAddr rfl (fun w => fa54_8 w _ _)) (wanted_none rfl) rfl rfl (by kernel_rfl) (fun _ _ _ h => h) ?_; clear S a; intro a S
   refine d_store (i := 9) #[true, true, true, true, true, true, true, true, true, true] S H rfl rfl rfl rfl .here (by first | decide | simp [Value.cells]) (fun w u hc hz => st1 sz2 rfl hc hz) (wanted_none rfl) rfl (by kernel_rfl) rfl ?_; clear S a H; intro w a H S
   refine d_done (by kernel_rfl) ?_
   refine e_then ?_
   refine wp_seq ?_
   refine wp_seq ?_
   refine c_region ?_
   refine l_pure S (p_move rfl) rfl rfl rfl ?_; clear S a; intro a S
   refine l_pure S (p_nilCheck rfl) rfl rfl rfl ?_; clear S a; intro a S
   refine l_pure S (p_fieldAddr rfl (fun w => fa54_7 w _ _)) rfl rfl rfl ?_; clear S a; intro a S
   refine l_read S H (r_load rfl List.mem_cons_self rfl (fun w hc => ld1 ag32 hc)) rfl rfl rfl ?_; clear S a; intro a S
   refine l_pure S (p_len Tryd.underlying32 rfl) rfl rfl rfl ?_; clear S a; intro a S
   refine l_pure S (p_move rfl) rfl rfl rfl ?_; clear S a; intro a S
   refine l_pure S (p_gtr rfl rfl) rfl rfl rfl ?_; clear S a; intro a S
   refine l_nil ?_
   refine e_then ?_
   refine c_cond S rfl (fun bc4 => ?_) (fun bc4 => ?_)
   ·
    have c4 := bc4
    have c4 := of_decide_eq_true c4
    have hxs : xs ≠ [] := fun e => by rw [e, List.length_nil] at hyl; omega
    have htx := hI.esc hxs
    refine wp_seq ?_
    refine d_start (id := 29) [20, 23] 24 #[false, false, false, false, false, false, false, false, false, false, false, false, false, false, false, false, false, false, false, false, false, false, false, false] H rfl rfl rfl (fun w H => ?_)
    refine d_pure (i := 0) #[true, false, false, false, false, false, false, false, false, false, false, false, false, false, false, false, false, false, false, false, false, false, false, false] S rfl (p_move rfl) (wanted_none rfl) rfl rfl (by kernel_rfl) (fun _ _ _ h => h) ?_; clear S a; intro a S
    refine d_pure (i := 1) #[true, true, false, false, false, false, false, false, false, false, false, false, false, false, false, false, false, false, false, false, false, false, false, false] S rfl (p_move rfl) (wanted_none rfl) rfl rfl (by kernel_rfl) (fun _ _ _ h => h) ?_; clear S a; intro a S
    refine d_pure (i := 2) #[true, true, true, false, false, false, false, false, false, false, false, false, false, false, false, false, false, false, false, false, false, false, false, false] S rfl (p_nilCheck rfl) (wanted_none rfl) rfl rfl (by kernel_rfl) (fun _ _ _ h => h) ?_; clear S a; intro a S
    refine d_pure (i := 3) #[true, true, true, true, false, false, false, false, false, false, false, false, false, false, false, false, false, false, false, false, false, false, false, false] S rfl (p_fieldAddr rfl (fun w => fa54_7 w _ _)) (wanted_none rfl) rfl rfl (by kernel_rfl) (fun _ _ _ h => h) ?_; clear S a; intro a S
    refine d_read (i := 4) #[true, true, true, true, true, false, false, false, false, false, false, false, false, false, false, false, false, false, false, false, false, false, false, false] S H rfl (r_load rfl List.mem_cons_self rfl (fun w hc => ld1 ag32 hc)) (wanted_none rfl) rfl rfl (by kernel_rfl) (fun _ _ _ h => h) ?_; clear S a; intro a S
    refine d_pure (i := 5) #[true, true, true, true, true, true, false, false, false, false, false, false, false, false, false, false, false, false, false, false, false, false, false, false] S rfl (p_move rfl) (wanted_none rfl) rfl rfl (by kernel_rfl) (fun _ _ _ h => h) ?_; clear S a; intro a S
    refine d_pure (i := 6) #[true, true, true, true, true, true, true, false, false, false, false, false, false, false, false, false, false, false, false, false, false, false, false, false] S rfl (p_nilCheck rfl) (wanted_none rfl) rfl rfl (by kernel_rfl) (fun _ _ _ h => h) ?_; clear S a; intro a S
    refine d_pure (i := 7) #[true, true, true, true, true, true, true, true, false, false, false, false, false, false, false, false, false, false, false, false, false, false, false, false] S rfl (p_fieldAddr rfl (fun w => fa54_1 w _ _)) (wanted_none rfl) rfl rfl (by kernel_rfl) (fun _ _ _ h => h) ?_; clear S a; intro a S
    refine d_read (i := 8) #[true, true, true, true, true, true, true, true, true, false, false, false, false, false, false, false, false, false, false, false, false, false, false, false] S H rfl (r_load rfl List.mem_cons_self rfl (fun w hc => ld1 ag32 hc)) (wanted_none rfl) rfl rfl (by kernel_rfl) (fun _ _ _ h => h) ?_; clear S a; intro a S
    refine d_pure (i := 9) #[true, true, true, true, true, true, true, true, true, true, false, false, false, false, false, false, false, false, false, false, false, false, false, false] S rfl (p_move rfl) (wanted_none rfl) rfl rfl (by kernel_rfl) (fun _ _ _ h => h) ?_; clear S a; intro a S
    refine d_pure (i := 10) #[true, true, true, true, true, true, true, true, true, true, true, false, false, false, false, false, false, false, false, false, false, false, false, false] S rfl (p_move rfl) (wanted_none rfl) rfl rfl (by kernel_rfl) (fun _ _ _ h => h) ?_; clear S a; intro a S
    refine d_pure (i := 11) #[true, true, true, true, true, true, true, true, true, true, true, true, false, false, false, false, false, false, false, false, false, false, false, false] S rfl (p_nilCheck rfl) (wanted_none rfl) rfl rfl (by kernel_rfl) (fun _ _ _ h => h) ?_; clear S a; intro a S
    refine d_pure (i := 12) #[true, true, true, true, true, true, true, true, true, true, true, true, true, false, false, false, false, false, false, false, false, false, false, false] S rfl (p_fieldAddr rfl (fun w => fa54_2 w _ _)) (wanted_none rfl) rfl rfl (by kernel_rfl) (fun _ _ _ h => h) ?_; clear S a; intro a S
    refine d_read (i := 13) #[true, true, true, true, true, true, true, true, true, true, true, true, true, true, false, false, false, false, false, false, false, false, false, false] S H rfl (r_load rfl List.mem_cons_self rfl (fun w hc => ld1 ag3 hc)) (wanted_none rfl) rfl rfl (by kernel_rfl) (fun _ _ _ h => h) ?_; clear S a; intro a S
    refine d_pure (i := 14) #[true, true, true, true, true, true, true, true, true, true, true, true, true, true, true, false, false, false, false, false, false, false, false, false] S rfl (p_add (r := ((r0 + se : Nat) : Int)) rfl rfl ((IntWalk.i64_in _ (by omega)).trans (by omega))) (wanted_none rfl) rfl rfl (by kernel_rfl) (fun _ _ _ h => h) ?_; clear S a; intro a S
    refine d_pure (i := 15) #[true, true, true, true, true, true, true, true, true, true, true, true, true, true, true, true, false, false, false, false, false, false, false, false] S rfl (p_move rfl) (wanted_none rfl) rfl rfl (by kernel_rfl) (fun _ _ _ h => h) ?_; clear S a; intro a S
    refine d_pure (i := 16) #[true, true, true, true, true, true, true, true, true, true, true, true, true, true, true, true, true, false, false, false, false, false, false, false] S rfl (p_nilCheck rfl) (wanted_none rfl) rfl rfl (by kernel_rfl) (fun _ _ _ h => h) ?_; clear S a; intro a S
    refine d_pure (i := 17) #[true, true, true, true, true, true, true, true, true, true, true, true, true, true, true, true, true, true, false, false, false, false, false, false] S rfl (p_fieldAddr rfl (fun w => fa54_3 w _ _)) (wanted_none rfl) rfl rfl (by kernel_rfl) (fun _ _ _ h => h) ?_; clear S a; intro a S
    refine d_read (i := 18) #[true, true, true, true, true, true, true, true, true, true, true, true, true, true, true, true, true, true, true, false, false, false, false, false] S H rfl (r_load rfl List.mem_cons_self rfl (fun w hc => ld1 ag3 hc)) (wanted_none rfl) rfl rfl (by kernel_rfl) (fun _ _ _ h => h) ?_; clear S a; intro a S
    refine d_pure (i := 19) #[true, true, true, true, true, true, true, true, true, true, true, true, true, true, true, true, true, true, true, true, false, false, false, false] S rfl (p_slice rfl (o_some rfl) (o_some rfl) (fun _ _ => o_none) (fun w => sl_sb (m := r0 + se) (h := r0 + q) Tryd.underlying32 sz5 rfl rfl (by omega) (by omega) hbuf.1)) (wanted_none rfl) rfl rfl (by kernel_rfl) (fun _ _ _ h => h) ?_; clear S a; intro a S
    rw [seg_eq se hdr (b := q) (by omega)] at S
    have hsrc := (((SB.buf hbuf H).cut (m := r0 + se) (j := r0 + q) (by omega) (by omega))).src (by rw [List.length_drop, List.length_take]; omega) Tryd.underlying32
    rw [seg_eq se hdr (b := q) (by omega)] at hsrc
    have hcl2 : ((X.take q).drop se).length ≤ X.length := by rw [cut_len (by omega)]; omega
    have H1 := HH.lp1 H
    refine d_ownK (i := 20) (_ :: (_ ++ (_ ++ _))) (r := ((X.take q).drop se)) #[true, true, true, true, true, true, true, true, true, true, true, true, true, true, true, true, true, true, true, true, true, false, false, false] S H1 rfl rfl rfl rfl hOw hsrc Tryd.underlying32 in5 rfl (by omega) (by decide) (wanted_none rfl) rfl rfl (by kernel_rfl) rfl ?_; clear S a H H1 hsrc; intro A2 c2 E2 G2 w a hOw2 H hKE2 S
    replace H := HH.un1 H
    refine d_pure (i := 21) #[true, true, true, true, true, true, true, true, true, true, true, true, true, true, true, true, true, true, true, true, true, true, false, false] S rfl (p_nilCheck rfl) (wanted_none rfl) rfl rfl (by kernel_rfl) (fun _ _ _ h => h) ?_; clear S a; intro a S
    refine d_pure (i := 22) #[true, true, true, true, true, true, true, true, true, true, true, true, true, true, true, true, true, true, true, true, true, true, true, false] S rfl (p_fieldAddr rfl (fun w => fa54_7 w _ _)) (wanted_none rfl) rfl rfl (by kernel_rfl) (fun _ _ _ h => h) ?_; clear S a; intro a S
    refine d_store (i := 23) #[true, true, true, true, true, true, true, true, true, true, true, true, true, true, true, true, true, true, true, true, true, true, true, true] S H rfl rfl rfl rfl .here (by first | decide | simp [Value.cells]) (fun w u hc hz => st1 sz32 rfl hc hz) (wanted_none rfl) rfl (by kernel_rfl) rfl ?_; clear S a H; intro w a H S
    refine d_done (by kernel_rfl) ?_
    refine e_then ?_
    refine c_region ?_
    refine l_pure S (p_move rfl) rfl rfl rfl ?_; clear S a; intro a S
    refine l_pure S (p_nilCheck rfl) rfl rfl rfl ?_; clear S a; intro a S
    refine l_pure S (p_fieldAddr rfl (fun w => fa54_7 w _ _)) rfl rfl rfl ?_; clear S a; intro a S
    refine l_read S H (r_load rfl List.mem_cons_self rfl (fun w hc => ld1 ag32 hc)) rfl rfl rfl ?_; clear S a; intro a S
    refine l_pure S (p_move rfl) rfl rfl rfl ?_; clear S a; intro a S
    have hys2 : ys ++ ((X.take q).drop se) = el ++ (xs ++ ((X.take q).drop se)) := by rw [hys, List.append_assoc]
    have hyl2 : (ys ++ ((X.take q).drop se)).length = el.length + (xs ++ ((X.take q).drop se)).length := by rw [hys2, List.length_append]
    refine l_pure S (p_slice rfl (o_some rfl) (fun _ _ => o_none) (fun _ _ => o_none) (fun w => sl_sb_lo (m := el.length) Tryd.underlying32 sz5 rfl (by omega))) rfl rfl rfl ?_; clear S a; intro a S
    have hdp : (ys ++ ((X.take q).drop se)).drop el.length = xs ++ ((X.take q).drop se) := by rw [hys2, List.drop_left]
    rw [hdp] at S
    have hsb : SB _ _ _ (xs ++ ((X.take q).drop se)) := hdp ▸ (SB.own hOw2 (HH.sub H (by
     refine List.Sublist.trans ?_ (List.sublist_cons_self _ _)
     refine List.Sublist.trans ?_ (List.sublist_append_right _ _)
     refine List.Sublist.trans ?_ (List.sublist_append_right _ _)
     exact List.sublist_append_right _ _))).drop (m := el.length) (by omega)
    have hsbc := hsb.1
    have hheld := held_esc (D := ([] : dc.Bk)) hOw2 hys2
    have hby : ∀ x ∈ xs ++ ((X.take q).drop se), 0 ≤ x ∧ x < 256 := htx ▸ tx_by hXb hhb
    have hctl : (xs ++ ((X.take q).drop se)).length ≤ 2 * X.length := by rw [List.length_append]; omega
    refine l_pure S (p_assign rfl) rfl rfl rfl ?_; clear S a; intro a S
    refine l_nil ?_
    refine e_then ?_
    refine wp_seq ?_
    refine wp_seq ?_
    refine c_region ?_
    refine l_pure S (p_move rfl) rfl rfl rfl ?_; clear S a; intro a S
    have hcon := validL_ _ _ _ (xs ++ (X.take q).drop se) hby hsb (by omega) (tabs_of hT H rfl)
    refine l_call S rfl rfl Tryd.func39 rfl rfl (hcon) rfl rfl rfl ?_
    rintro e w ⟨rfl, hb⟩
    refine ⟨_, rfl, ?_⟩; clear S a; intro a S
    replace H := H.later hb; clear hcon hb hsb
    refine l_pure S (p_not rfl) rfl rfl rfl ?_; clear S a; intro a S
    refine l_nil ?_
    refine e_then ?_
    refine c_cond S rfl (fun bc7 => ?_) (fun bc7 => ?_)
    ·
     have c7 := bc7
     replace c7 := not_eq_true_ c7
     
     refine wp_seq ?_
     refine c_region ?_
     refine l_pure S (p_move rfl) rfl rfl rfl ?_; clear S a; intro a S
     refine l_pure S (p_move rfl) rfl rfl rfl ?_; clear S a; intro a S
     refine l_pure S (p_move rfl) rfl rfl rfl ?_; clear S a; intro a S
     refine l_pure S (p_move rfl) rfl rfl rfl ?_; clear S a; intro a S
     have hcon := gt.errNew_ wb _ _ _ ⟨#[105, 110, 118, 97, 108, 105, 100, 32, 117, 116, 102, 45, 56, 32, 115, 101, 113, 117, 101, 110, 99, 101, 32, 105, 110, 32, 116, 111, 107, 101, 110, 32, 46, 46]⟩ H
     refine l_call S rfl rfl Tryd.func41 rfl rfl (hcon) rfl rfl rfl ?_
     rintro e w ⟨gn, rfl, hH⟩
     refine ⟨_, rfl, ?_⟩; clear S a; intro a S
     clear H hcon; have H := hH; clear hH
     have hDq : dc.Dec TY wb g X q v cm M sec sk (.slice A2 (ys ++ ((X.take q).drop se)).length c2) (line + cnt 10 ((X.take q).drop p0)) er ((g, .cells #[rd, .slice A l.length c, .int .i64 (r0 : Int), .int .i64 ((r0 + q : Nat) : Int), .bool cm, .int .u8 sec, .bool sk, .slice A2 (ys ++ ((X.take q).drop se)).length c2, .int .i64 ((line + cnt 10 ((X.take q).drop p0) : Nat) : Int), er] 54 (0, 0)) :: (mb ++ mr)) := ⟨rd, A, l, c, r0, mb, mr, rfl, hbuf, hrd, hr0, hvX, hdr, hsz, hpX⟩
     have H1 := HH.errIn H
     have hcon := gt.synErr_ wb _ _ _ g X q v cm M sec sk _ _ er hDq H1 p0 (by omega) hqv (by omega) 89 (.pointer (some ⟨gn, 0, none⟩))
     refine l_call S rfl rfl Tryd.func40 rfl rfl (hcon) rfl rfl rfl ?_
     rintro e w ⟨gf, D2, rfl, hD2, hH, hK2⟩
     refine ⟨_, rfl, ?_⟩; clear S a; intro a S
     clear H hcon H1; have H := hH; clear hH
     refine l_pure S (p_assign rfl) rfl rfl rfl ?_; clear S a; intro a S
     refine l_pure S (p_assign rfl) rfl rfl rfl ?_; clear S a; intro a S
     refine l_pure S (p_assign rfl) rfl rfl rfl ?_; clear S a; intro a S
     refine l_nil ?_
     refine e_then ?_
     refine wp_ret ?_
     refine e_then_ret ?_
     refine e_sc_ret ?_
     have hn := hI.n
     rw [hn, hln, htx]
     have H2 : HH wb.heap.size wb _ (D2 ++ (((gf, _) :: (gn, _) :: (G2 ++ G)) ++ (E2 ++ L0))) := H.perm (List.perm_middle (l₁ := D2) (a := (gf, _)) (l₂ := (gn, _) :: ((G2 ++ G) ++ (E2 ++ L0)))).symm
     have hctc : (xs ++ (X.take q).drop se).length ≤ _ := hsbc
     exact r_ret3 S rfl rfl rfl rfl ⟨_, _, _, A2, c2, (ys ++ ((X.take q).drop se)), v, cm, M, D2, E2, (gf, _) :: (gn, _) :: (G2 ++ G), _, rfl, hD2, hOw2, ⟨(xs ++ ((X.take q).drop se)), hys2, by rw [List.length_append]; omega⟩, H2, Keeps_two (Keeps_head (Keeps_more hK G2) hK2 rfl), KeepsE_two (hKE.trans hKE2), hqv, (held_esc hOw2 hys2), hctc, .inr ⟨c7, rfl, gf, _, _, rfl, List.mem_cons_self⟩⟩
    ·
     have c7 := bc7
     replace c7 := not_eq_false_ c7
     
     refine wp_skip ?_
     refine e_then ?_
     refine wp_seq ?_
     refine c_region ?_
     refine l_pure S (p_move rfl) rfl rfl rfl ?_; clear S a; intro a S
     refine l_pure S (p_move rfl) rfl rfl rfl ?_; clear S a; intro a S
     refine l_pure S (p_assign rfl) rfl rfl rfl ?_; clear S a; intro a S
     refine l_pure S (p_assign rfl) rfl rfl rfl ?_; clear S a; intro a S
     refine l_pure S (p_assign rfl) rfl rfl rfl ?_; clear S a; intro a S
     refine l_nil ?_
     refine e_then ?_
     refine wp_ret ?_
     refine e_sc_ret ?_
     have hn := hI.n
     rw [hn, hln, htx]
     have hctc : (xs ++ (X.take q).drop se).length ≤ _ := hsbc
     exact r_ret3 S rfl rfl rfl rfl ⟨_, _, _, A2, c2, (ys ++ ((X.take q).drop se)), v, cm, M, _, E2, (G2 ++ G), sec, rfl, ⟨rd, A, l, c, r0, mb, mr, rfl, hbuf, hrd, hr0, hvX, hdr, hsz, hpX⟩, hOw2, ⟨(xs ++ ((X.take q).drop se)), hys2, by rw [List.length_append]; omega⟩, dc.open_.2 H, (Keeps_more hK G2).then_head rfl, (hKE.trans hKE2), hqv, (held_esc hOw2 hys2), hctc, .inl ⟨c7, rfl, rfl⟩⟩
   ·
    have c4 := bc4
    have c4 := of_decide_eq_false c4
    have hxs : xs = [] := List.length_eq_zero_iff.1 (by omega)
    have htx := hI.raw hxs
    have hsb : SB _ _ _ ((X.take q).drop p0) := (seg_eq p0 hdr (b := q) (by omega)) ▸ (SB.buf hbuf H).cut (m := r0 + p0) (j := r0 + q) (by omega) (by omega)
    have hsbc := hsb.1
    have hheld := fun (c0 c2 c3 c4 c5 c6 c7 c8 c9 : Value) => held_raw (g := g) (c0 := c0) (c2 := c2) (c3 := c3) (c4 := c4) (c5 := c5) (c6 := c6) (c7 := c7) (c8 := c8) (c9 := c9) (mr := mr) (E := E) (td := TY.td) (eb := .slice Ae ys.length ce) (p0 := p0) hbuf hr0 hdr hvX hqv
    have hby := cut_by hXb q p0
    have hctl : ((X.take q).drop p0).length ≤ X.length := by rw [cut_len (by omega)]; omega
    refine wp_skip ?_
    refine e_then ?_
    refine wp_seq ?_
    refine wp_seq ?_
    refine c_region ?_
    refine l_pure S (p_move rfl) rfl rfl rfl ?_; clear S a; intro a S
    have hcon := validL_ _ _ _ ((X.take q).drop p0) hby hsb (by omega) (tabs_of hT H rfl)
    refine l_call S rfl rfl Tryd.func39 rfl rfl (hcon) rfl rfl rfl ?_
    rintro e w ⟨rfl, hb⟩
    refine ⟨_, rfl, ?_⟩; clear S a; intro a S
    replace H := H.later hb; clear hcon hb hsb
    refine l_pure S (p_not rfl) rfl rfl rfl ?_; clear S a; intro a S
    refine l_nil ?_
    refine e_then ?_
    refine c_cond S rfl (fun bc10 => ?_) (fun bc10 => ?_)
    ·
     have c10 := bc10
     replace c10 := not_eq_true_ c10
     
     refine wp_seq ?_
     refine c_region ?_
     refine l_pure S (p_move rfl) rfl rfl rfl ?_; clear S a; intro a S
     refine l_pure S (p_move rfl) rfl rfl rfl ?_; clear S a; intro a S
     refine l_pure S (p_move rfl) rfl rfl rfl ?_; clear S a; intro a S
     refine l_pure S (p_move rfl) rfl rfl rfl ?_; clear S a; intro a S
     have hcon := gt.errNew_ wb _ _ _ ⟨#[105, 110, 118, 97, 108, 105, 100, 32, 117, 116, 102, 45, 56, 32, 115, 101, 113, 117, 101, 110, 99, 101, 32, 105, 110, 32, 116, 111, 107, 101, 110, 32, 46, 46]⟩ H
     refine l_call S rfl rfl Tryd.func41 rfl rfl (hcon) rfl rfl rfl ?_
     rintro e w ⟨gn, rfl, hH⟩
     refine ⟨_, rfl, ?_⟩; clear S a; intro a S
     clear H hcon; have H := hH; clear hH
     have hDq : dc.Dec TY wb g X q v cm M sec sk (.slice Ae ys.length ce) (line + cnt 10 ((X.take q).drop p0)) er ((g, .cells #[rd, .slice A l.length c, .int .i64 (r0 : Int), .int .i64 ((r0 + q : Nat) : Int), .bool cm, .int .u8 sec, .bool sk, .slice Ae ys.length ce, .int .i64 ((line + cnt 10 ((X.take q).drop p0) : Nat) : Int), er] 54 (0, 0)) :: (mb ++ mr)) := ⟨rd, A, l, c, r0, mb, mr, rfl, hbuf, hrd, hr0, hvX, hdr, hsz, hpX⟩
     have H1 := HH.errIn H
     have hcon := gt.synErr_ wb _ _ _ g X q v cm M sec sk _ _ er hDq H1 p0 (by omega) hqv (by omega) 89 (.pointer (some ⟨gn, 0, none⟩))
     refine l_call S rfl rfl Tryd.func40 rfl rfl (hcon) rfl rfl rfl ?_
     rintro e w ⟨gf, D2, rfl, hD2, hH, hK2⟩
     refine ⟨_, rfl, ?_⟩; clear S a; intro a S
     clear H hcon H1; have H := hH; clear hH
     refine l_pure S (p_assign rfl) rfl rfl rfl ?_; clear S a; intro a S
     refine l_pure S (p_assign rfl) rfl rfl rfl ?_; clear S a; intro a S
     refine l_pure S (p_assign rfl) rfl rfl rfl ?_; clear S a; intro a S
     refine l_nil ?_
     refine e_then ?_
     refine wp_ret ?_
     refine e_then_ret ?_
     refine e_sc_ret ?_
     have hn := hI.n
     rw [hn, hln, htx]
     have H2 : HH wb.heap.size wb _ (D2 ++ (((gf, _) :: (gn, _) :: G) ++ (E ++ L0))) := H.perm (List.perm_middle (l₁ := D2) (a := (gf, _)) (l₂ := (gn, _) :: (G ++ (E ++ L0)))).symm
     have hctc : ((X.take q).drop p0).length ≤ _ := hsbc
     exact r_ret3 S rfl rfl rfl rfl ⟨_, _, _, Ae, ce, ys, v, cm, M, D2, E, (gf, _) :: (gn, _) :: G, _, rfl, hD2, hOw, ⟨xs, hys, by omega⟩, H2, Keeps_two (Keeps_head hK hK2 rfl), KeepsE_two hKE, hqv, (HeldT.keeps (hheld _ _ _ _ _ _ _ _ _) hK2), hctc, .inr ⟨c10, rfl, gf, _, _, rfl, List.mem_cons_self⟩⟩
    ·
     have c10 := bc10
     replace c10 := not_eq_false_ c10
     
     refine wp_skip ?_
     refine e_then ?_
     refine wp_seq ?_
     refine c_region ?_
     refine l_pure S (p_move rfl) rfl rfl rfl ?_; clear S a; intro a S
     refine l_pure S (p_move rfl) rfl rfl rfl ?_; clear S a; intro a S
     refine l_pure S (p_assign rfl) rfl rfl rfl ?_; clear S a; intro a S
     refine l_pure S (p_assign rfl) rfl rfl rfl ?_; clear S a; intro a S
     refine l_pure S (p_assign rfl) rfl rfl rfl ?_; clear S a; intro a S
     refine l_nil ?_
     refine e_then ?_
     refine wp_ret ?_
     refine e_sc_ret ?_
     have hn := hI.n
     rw [hn, hln, htx]
     have hctc : ((X.take q).drop p0).length ≤ _ := hsbc
     exact r_ret3 S rfl rfl rfl rfl ⟨_, _, _, Ae, ce, ys, v, cm, M, _, E, G, sec, rfl, ⟨rd, A, l, c, r0, mb, mr, rfl, hbuf, hrd, hr0, hvX, hdr, hsz, hpX⟩, hOw, ⟨xs, hys, by omega⟩, dc.open_.2 H, hK.then_head rfl, hKE, hqv, (hheld _ _ _ _ _ _ _ _ _), hctc, .inl ⟨c10, rfl, rfl⟩⟩
  ·
   have c2 := bc2
   have hln : lnT sp X p0 q line = line := by unfold lnT; rw [if_neg (by rw [c2]; decide)]; rfl
   refine wp_skip ?_
   refine e_then ?_
   refine wp_seq ?_
   refine wp_seq ?_
   refine c_region ?_
   refine l_pure S (p_move rfl) rfl rfl rfl ?_; clear S a; intro a S
   refine l_pure S (p_nilCheck rfl) rfl rfl rfl ?_; clear S a; intro a S
   refine l_pure S (p_fieldAddr rfl (fun w => fa54_7 w _ _)) rfl rfl rfl ?_; clear S a; intro a S
   refine l_read S H (r_load rfl List.mem_cons_self rfl (fun w hc => ld1 ag32 hc)) rfl rfl rfl ?_; clear S a; intro a S
   refine l_pure S (p_len Tryd.underlying32 rfl) rfl rfl rfl ?_; clear S a; intro a S
   refine l_pure S (p_move rfl) rfl rfl rfl ?_; clear S a; intro a S
   refine l_pure S (p_gtr rfl rfl) rfl rfl rfl ?_; clear S a; intro a S
   refine l_nil ?_
   refine e_then ?_
   refine c_cond S rfl (fun bc12 => ?_) (fun bc12 => ?_)
   ·
    have c12 := bc12
    have c12 := of_decide_eq_true c12
    have hxs : xs ≠ [] := fun e => by rw [e, List.length_nil] at hyl; omega
    have htx := hI.esc hxs
    refine wp_seq ?_
    refine d_start (id := 29) [20, 23] 24 #[false, false, false, false, false, false, false, false, false, false, false, false, false, false, false, false, false, false, false, false, false, false, false, false] H rfl rfl rfl (fun w H => ?_)
    refine d_pure (i := 0) #[true, false, false, false, false, false, false, false, false, false, false, false, false, false, false, false, false, false, false, false, false, false, false, false] S rfl (p_move rfl) (wanted_none rfl) rfl rfl (by kernel_rfl) (fun _ _ _ h => h) ?_; clear S a; intro a S
    refine d_pure (i := 1) #[true, true, false, false, false, false, false, false, false, false, false, false, false, false, false, false, false, false, false, false, false, false, false, false] S rfl (p_move rfl) (wanted_none rfl) rfl rfl (by kernel_rfl) (fun _ _ _ h => h) ?_; clear S a; intro a S
    refine d_pure (i := 2) #[true, true, true, false, false, false, false, false, false, false, false, false, false, false, false, false, false, false, false, false, false, false, false, false] S rfl (p_nilCheck rfl) (wanted_none rfl) rfl rfl (by kernel_rfl) (fun _ _ _ h => h) ?_; clear S a; intro a S
    refine d_pure (i := 3) #[true, true, true, true, false, false, false, false, false, false, false, false, false, false, false, false, false, false, false, false, false, false, false, false] S rfl (p_fieldAddr rfl (fun w => fa54_7 w _ _)) (wanted_none rfl) rfl rfl (by kernel_rfl) (fun _ _ _ h => h) ?_; clear S a; intro a S
    refine d_read (i := 4) #[true, true, true, true, true, false, false, false, false, false, false, false, false, false, false, false, false, false, false, false, false, false, false, false] S H rfl (r_load rfl List.mem_cons_self rfl (fun w hc => ld1 ag32 hc)) (wanted_none rfl) rfl rfl (by kernel_rfl) (fun _ _ _ h => h) ?_; clear S a; intro a S
    refine d_pure (i := 5) #[true, true, true, true, true, true, false, false, false, false, false, false, false, false, false, false, false, false, false, false, false, false, false, false] S rfl (p_move rfl) (wanted_none rfl) rfl rfl (by kernel_rfl) (fun _ _ _ h => h) ?_; clear S a; intro a S
    refine d_pure (i := 6) #[true, true, true, true, true, true, true, false, false, false, false, false, false, false, false, false, false, false, false, false, false, false, false, false] S rfl (p_nilCheck rfl) (wanted_none rfl) rfl rfl (by kernel_rfl) (fun _ _ _ h => h) ?_; clear S a; intro a S
    refine d_pure (i := 7) #[true, true, true, true, true, true, true, true, false, false, false, false, false, false, false, false, false, false, false, false, false, false, false, false] S rfl (p_fieldAddr rfl (fun w => fa54_1 w _ _)) (wanted_none rfl) rfl rfl (by kernel_rfl) (fun _ _ _ h => h) ?_; clear S a; intro a S
    refine d_read (i := 8) #[true, true, true, true, true, true, true, true, true, false, false, false, false, false, false, false, false, false, false, false, false, false, false, false] S H rfl (r_load rfl List.mem_cons_self rfl (fun w hc => ld1 ag32 hc)) (wanted_none rfl) rfl rfl (by kernel_rfl) (fun _ _ _ h => h) ?_; clear S a; intro a S
    refine d_pure (i := 9) #[true, true, true, true, true, true, true, true, true, true, false, false, false, false, false, false, false, false, false, false, false, false, false, false] S rfl (p_move rfl) (wanted_none rfl) rfl rfl (by kernel_rfl) (fun _ _ _ h => h) ?_; clear S a; intro a S
    refine d_pure (i := 10) #[true, true, true, true, true, true, true, true, true, true, true, false, false, false, false, false, false, false, false, false, false, false, false, false] S rfl (p_move rfl) (wanted_none rfl) rfl rfl (by kernel_rfl) (fun _ _ _ h => h) ?_; clear S a; intro a S
    refine d_pure (i := 11) #[true, true, true, true, true, true, true, true, true, true, true, true, false, false, false, false, false, false, false, false, false, false, false, false] S rfl (p_nilCheck rfl) (wanted_none rfl) rfl rfl (by kernel_rfl) (fun _ _ _ h => h) ?_; clear S a; intro a S
    refine d_pure (i := 12) #[true, true, true, true, true, true, true, true, true, true, true, true, true, false, false, false, false, false, false, false, false, false, false, false] S rfl (p_fieldAddr rfl (fun w => fa54_2 w _ _)) (wanted_none rfl) rfl rfl (by kernel_rfl) (fun _ _ _ h => h) ?_; clear S a; intro a S
    refine d_read (i := 13) #[true, true, true, true, true, true, true, true, true, true, true, true, true, true, false, false, false, false, false, false, false, false, false, false] S H rfl (r_load rfl List.mem_cons_self rfl (fun w hc => ld1 ag3 hc)) (wanted_none rfl) rfl rfl (by kernel_rfl) (fun _ _ _ h => h) ?_; clear S a; intro a S
    refine d_pure (i := 14) #[true, true, true, true, true, true, true, true, true, true, true, true, true, true, true, false, false, false, false, false, false, false, false, false] S rfl (p_add (r := ((r0 + se : Nat) : Int)) rfl rfl ((IntWalk.i64_in _ (by omega)).trans (by omega))) (wanted_none rfl) rfl rfl (by kernel_rfl) (fun _ _ _ h => h) ?_; clear S a; intro a S
    refine d_pure (i := 15) #[true, true, true, true, true, true, true, true, true, true, true, true, true, true, true, true, false, false, false, false, false, false, false, false] S rfl (p_move rfl) (wanted_none rfl) rfl rfl (by kernel_rfl) (fun _ _ _ h => h) ?_; clear S a; intro a S
    refine d_pure (i := 16) #[true, true, true, true, true, true, true, true, true, true, true, true, true, true, true, true, true, false, false, false, false, false, false, false] S rfl (p_nilCheck rfl) (wanted_none rfl) rfl rfl (by kernel_rfl) (fun _ _ _ h => h) ?_; clear S a; intro a S
    refine d_pure (i := 17) #[true, true, true, true, true, true, true, true, true, true, true, true, true, true, true, true, true, true, false, false, false, false, false, false] S rfl (p_fieldAddr rfl (fun w => fa54_3 w _ _)) (wanted_none rfl) rfl rfl (by kernel_rfl) (fun _ _ _ h => h) ?_; clear S a; intro a S
    refine d_read (i := 18) #[true, true, true, true, true, true, true, true, true, true, true, true, true, true, true, true, true, true, true, false, false, false, false, false] S H rfl (r_load rfl List.mem_cons_self rfl (fun w hc => ld1 ag3 hc)) (wanted_none rfl) rfl rfl (by kernel_rfl) (fun _ _ _ h => h) ?_; clear S a; intro a S
    refine d_pure (i := 19) #[true, true, true, true, true, true, true, true, true, true, true, true, true, true, true, true, true, true, true, true, false, false, false, false] S rfl (p_slice rfl (o_some rfl) (o_some rfl) (fun _ _ => o_none) (fun w => sl_sb (m := r0 + se) (h := r0 + q) Tryd.underlying32 sz5 rfl rfl (by omega) (by omega) hbuf.1)) (wanted_none rfl) rfl rfl (by kernel_rfl) (fun _ _ _ h => h) ?_; clear S a; intro a S
    rw [seg_eq se hdr (b := q) (by omega)] at S
    have hsrc := (((SB.buf hbuf H).cut (m := r0 + se) (j := r0 + q) (by omega) (by omega))).src (by rw [List.length_drop, List.length_take]; omega) Tryd.underlying32
    rw [seg_eq se hdr (b := q) (by omega)] at hsrc
    have hcl2 : ((X.take q).drop se).length ≤ X.length := by rw [cut_len (by omega)]; omega
    have H1 := HH.lp1 H
    refine d_ownK (i := 20) (_ :: (_ ++ (_ ++ _))) (r := ((X.take q).drop se)) #[true, true, true, true, true, true, true, true, true, true, true, true, true, true, true, true, true, true, true, true, true, false, false, false] S H1 rfl rfl rfl rfl hOw hsrc Tryd.underlying32 in5 rfl (by omega) (by decide) (wanted_none rfl) rfl rfl (by kernel_rfl) rfl ?_; clear S a H H1 hsrc; intro A2 c2 E2 G2 w a hOw2 H hKE2 S
    replace H := HH.un1 H
    refine d_pure (i := 21) #[true, true, true, true, true, true, true, true, true, true, true, true, true, true, true, true, true, true, true, true, true, true, false, false] S rfl (p_nilCheck rfl) (wanted_none rfl) rfl rfl (by kernel_rfl) (fun _ _ _ h => h) ?_; clear S a; intro a S
    refine d_pure (i := 22) #[true, true, true, true, true, true, true, true, true, true, true, true, true, true, true, true, true, true, true, true, true, true, true, false] S rfl (p_fieldAddr rfl (fun w => fa54_7 w _ _)) (wanted_none rfl) rfl rfl (by kernel_rfl) (fun _ _ _ h => h) ?_; clear S a; intro a S
    refine d_store (i := 23) #[true, true, true, true, true, true, true, true, true, true, true, true, true, true, true, true, true, true, true, true, true, true, true, true] S H rfl rfl rfl rfl .here (by first | decide | simp [Value.cells]) (fun w u hc hz => st1 sz32 rfl hc hz) (wanted_none rfl) rfl (by kernel_rfl) rfl ?_; clear S a H; intro w a H S
    refine d_done (by kernel_rfl) ?_
    refine e_then ?_
    refine c_region ?_
    refine l_pure S (p_move rfl) rfl rfl rfl ?_; clear S a; intro a S
    refine l_pure S (p_nilCheck rfl) rfl rfl rfl ?_; clear S a; intro a S
    refine l_pure S (p_fieldAddr rfl (fun w => fa54_7 w _ _)) rfl rfl rfl ?_; clear S a; intro a S
    refine l_read S H (r_load rfl List.mem_cons_self rfl (fun w hc => ld1 ag32 hc)) rfl rfl rfl ?_; clear S a; intro a S
    refine l_pure S (p_move rfl) rfl rfl rfl ?_; clear S a; intro a S
    have hys2 : ys ++ ((X.take q).drop se) = el ++ (xs ++ ((X.take q).drop se)) := by rw [hys, List.append_assoc]
    have hyl2 : (ys ++ ((X.take q).drop se)).length = el.length + (xs ++ ((X.take q).drop se)).length := by rw [hys2, List.length_append]
    refine l_pure S (p_slice rfl (o_some rfl) (fun _ _ => o_none) (fun _ _ => o_none) (fun w => sl_sb_lo (m := el.length) Tryd.underlying32 sz5 rfl (by omega))) rfl rfl rfl ?_; clear S a; intro a S
    have hdp : (ys ++ ((X.take q).drop se)).drop el.length = xs ++ ((X.take q).drop se) := by rw [hys2, List.drop_left]
    rw [hdp] at S
    have hsb : SB _ _ _ (xs ++ ((X.take q).drop se)) := hdp ▸ (SB.own hOw2 (HH.sub H (by
     refine List.Sublist.trans ?_ (List.sublist_cons_self _ _)
     refine List.Sublist.trans ?_ (List.sublist_append_right _ _)
     refine List.Sublist.trans ?_ (List.sublist_append_right _ _)
     exact List.sublist_append_right _ _))).drop (m := el.length) (by omega)
    have hsbc := hsb.1
    have hheld := held_esc (D := ([] : dc.Bk)) hOw2 hys2
    have hby : ∀ x ∈ xs ++ ((X.take q).drop se), 0 ≤ x ∧ x < 256 := htx ▸ tx_by hXb hhb
    have hctl : (xs ++ ((X.take q).drop se)).length ≤ 2 * X.length := by rw [List.length_append]; omega
    refine l_pure S (p_assign rfl) rfl rfl rfl ?_; clear S a; intro a S
    refine l_nil ?_
    refine e_then ?_
    refine wp_seq ?_
    refine wp_seq ?_
    refine c_region ?_
    refine l_pure S (p_move rfl) rfl rfl rfl ?_; clear S a; intro a S
    have hcon := validL_ _ _ _ (xs ++ (X.take q).drop se) hby hsb (by omega) (tabs_of hT H rfl)
    refine l_call S rfl rfl Tryd.func39 rfl rfl (hcon) rfl rfl rfl ?_
    rintro e w ⟨rfl, hb⟩
    refine ⟨_, rfl, ?_⟩; clear S a; intro a S
    replace H := H.later hb; clear hcon hb hsb
    refine l_pure S (p_not rfl) rfl rfl rfl ?_; clear S a; intro a S
    refine l_nil ?_
    refine e_then ?_
    refine c_cond S rfl (fun bc15 => ?_) (fun bc15 => ?_)
    ·
     have c15 := bc15
     replace c15 := not_eq_true_ c15
     
     refine wp_seq ?_
     refine c_region ?_
     refine l_pure S (p_move rfl) rfl rfl rfl ?_; clear S a; intro a S
     refine l_pure S (p_move rfl) rfl rfl rfl ?_; clear S a; intro a S
     refine l_pure S (p_move rfl) rfl rfl rfl ?_; clear S a; intro a S
     refine l_pure S (p_move rfl) rfl rfl rfl ?_; clear S a; intro a S
     have hcon := gt.errNew_ wb _ _ _ ⟨#[105, 110, 118, 97, 108, 105, 100, 32, 117, 116, 102, 45, 56, 32, 115, 101, 113, 117, 101, 110, 99, 101, 32, 105, 110, 32, 116, 111, 107, 101, 110, 32, 46, 46]⟩ H
     refine l_call S rfl rfl Tryd.func41 rfl rfl (hcon) rfl rfl rfl ?_
     rintro e w ⟨gn, rfl, hH⟩
     refine ⟨_, rfl, ?_⟩; clear S a; intro a S
     clear H hcon; have H := hH; clear hH
     have hDq : dc.Dec TY wb g X q v cm M sec sk (.slice A2 (ys ++ ((X.take q).drop se)).length c2) (line) er ((g, .cells #[rd, .slice A l.length c, .int .i64 (r0 : Int), .int .i64 ((r0 + q : Nat) : Int), .bool cm, .int .u8 sec, .bool sk, .slice A2 (ys ++ ((X.take q).drop se)).length c2, .int .i64 ((line : Nat) : Int), er] 54 (0, 0)) :: (mb ++ mr)) := ⟨rd, A, l, c, r0, mb, mr, rfl, hbuf, hrd, hr0, hvX, hdr, hsz, hpX⟩
     have H1 := HH.errIn H
     have hcon := gt.synErr_ wb _ _ _ g X q v cm M sec sk _ _ er hDq H1 p0 (by omega) hqv (by omega) 89 (.pointer (some ⟨gn, 0, none⟩))
     refine l_call S rfl rfl Tryd.func40 rfl rfl (hcon) rfl rfl rfl ?_
     rintro e w ⟨gf, D2, rfl, hD2, hH, hK2⟩
     refine ⟨_, rfl, ?_⟩; clear S a; intro a S
     clear H hcon H1; have H := hH; clear hH
     refine l_pure S (p_assign rfl) rfl rfl rfl ?_; clear S a; intro a S
     refine l_pure S (p_assign rfl) rfl rfl rfl ?_; clear S a; intro a S
     refine l_pure S (p_assign rfl) rfl rfl rfl ?_; clear S a; intro a S
     refine l_nil ?_
     refine e_then ?_
     refine wp_ret ?_
     refine e_then_ret ?_
     refine e_sc_ret ?_
     have hn := hI.n
     rw [hn, hln, htx]
     have H2 : HH wb.heap.size wb _ (D2 ++ (((gf, _) :: (gn, _) :: (G2 ++ G)) ++ (E2 ++ L0))) := H.perm (List.perm_middle (l₁ := D2) (a := (gf, _)) (l₂ := (gn, _) :: ((G2 ++ G) ++ (E2 ++ L0)))).symm
     have hctc : (xs ++ (X.take q).drop se).length ≤ _ := hsbc
     exact r_ret3 S rfl rfl rfl rfl ⟨_, _, _, A2, c2, (ys ++ ((X.take q).drop se)), v, cm, M, D2, E2, (gf, _) :: (gn, _) :: (G2 ++ G), _, rfl, hD2, hOw2, ⟨(xs ++ ((X.take q).drop se)), hys2, by rw [List.length_append]; omega⟩, H2, Keeps_two (Keeps_head (Keeps_more hK G2) hK2 rfl), KeepsE_two (hKE.trans hKE2), hqv, (held_esc hOw2 hys2), hctc, .inr ⟨c15, rfl, gf, _, _, rfl, List.mem_cons_self⟩⟩
    ·
     have c15 := bc15
     replace c15 := not_eq_false_ c15
     
     refine wp_skip ?_
     refine e_then ?_
     refine wp_seq ?_
     refine c_region ?_
     refine l_pure S (p_move rfl) rfl rfl rfl ?_; clear S a; intro a S
     refine l_pure S (p_move rfl) rfl rfl rfl ?_; clear S a; intro a S
     refine l_pure S (p_assign rfl) rfl rfl rfl ?_; clear S a; intro a S
     refine l_pure S (p_assign rfl) rfl rfl rfl ?_; clear S a; intro a S
     refine l_pure S (p_assign rfl) rfl rfl rfl ?_; clear S a; intro a S
     refine l_nil ?_
     refine e_then ?_
     refine wp_ret ?_
     refine e_sc_ret ?_
     have hn := hI.n
     rw [hn, hln, htx]
     have hctc : (xs ++ (X.take q).drop se).length ≤ _ := hsbc
     exact r_ret3 S rfl rfl rfl rfl ⟨_, _, _, A2, c2, (ys ++ ((X.take q).drop se)), v, cm, M, _, E2, (G2 ++ G), sec, rfl, ⟨rd, A, l, c, r0, mb, mr, rfl, hbuf, hrd, hr0, hvX, hdr, hsz, hpX⟩, hOw2, ⟨(xs ++ ((X.take q).drop se)), hys2, by rw [List.length_append]; omega⟩, dc.open_.2 H, (Keeps_more hK G2).then_head rfl, (hKE.trans hKE2), hqv, (held_esc hOw2 hys2), hctc, .inl ⟨c15, rfl, rfl⟩⟩
   ·
    have c12 := bc12
    have c12 := of_decide_eq_false c12
    have hxs : xs = [] := List.length_eq_zero_iff.1 (by omega)
    have htx := hI.raw hxs
    have hsb : SB _ _ _ ((X.take q).drop p0) := (seg_eq p0 hdr (b := q) (by omega)) ▸ (SB.buf hbuf H).cut (m := r0 + p0) (j := r0 + q) (by omega) (by omega)
    have hsbc := hsb.1
    have hheld := fun (c0 c2 c3 c4 c5 c6 c7 c8 c9 : Value) => held_raw (g := g) (c0 := c0) (c2 := c2) (c3 := c3) (c4 := c4) (c5 := c5) (c6 := c6) (c7 := c7) (c8 := c8) (c9 := c9) (mr := mr) (E := E) (td := TY.td) (eb := .slice Ae ys.length ce) (p0 := p0) hbuf hr0 hdr hvX hqv
    have hby := cut_by hXb q p0
    have hctl : ((X.take q).drop p0).length ≤ X.length := by rw [cut_len (by omega)]; omega
    refine wp_skip ?_
    refine e_then ?_
    refine wp_seq ?_
    refine wp_seq ?_
    refine c_region ?_
    refine l_pure S (p_move rfl) rfl rfl rfl ?_; clear S a; intro a S
    have hcon := validL_ _ _ _ ((X.take q).drop p0) hby hsb (by omega) (tabs_of hT H rfl)
    refine l_call S rfl rfl Tryd.func39 rfl rfl (hcon) rfl rfl rfl ?_
    rintro e w ⟨rfl, hb⟩
    refine ⟨_, rfl, ?_⟩; clear S a; intro a S
    replace H := H.later hb; clear hcon hb hsb
    refine l_pure S (p_not rfl) rfl rfl rfl ?_; clear S a; intro a S
    refine l_nil ?_
    refine e_then ?_
    refine c_cond S rfl (fun bc18 => ?_) (fun bc18 => ?_)
    ·
     have c18 := bc18
     replace c18 := not_eq_true_ c18
     
     refine wp_seq ?_
     refine c_region ?_
     refine l_pure S (p_move rfl) rfl rfl rfl ?_; clear S a; intro a S
     refine l_pure S (p_move rfl) rfl rfl rfl ?_; clear S a; intro a S
     refine l_pure S (p_move rfl) rfl rfl rfl ?_; clear S a; intro a S
     refine l_pure S (p_move rfl) rfl rfl rfl ?_; clear S a; intro a S
     have hcon := gt.errNew_ wb _ _ _ ⟨#[105, 110, 118, 97, 108, 105, 100, 32, 117, 116, 102, 45, 56, 32, 115, 101, 113, 117, 101, 110, 99, 101, 32, 105, 110, 32, 116, 111, 107, 101, 110, 32, 46, 46]⟩ H
     refine l_call S rfl rfl Tryd.func41 rfl rfl (hcon) rfl rfl rfl ?_
     rintro e w ⟨gn, rfl, hH⟩
     refine ⟨_, rfl, ?_⟩; clear S a; intro a S
     clear H hcon; have H := hH; clear hH
     have hDq : dc.Dec TY wb g X q v cm M sec sk (.slice Ae ys.length ce) (line) er ((g, .cells #[rd, .slice A l.length c, .int .i64 (r0 : Int), .int .i64 ((r0 + q : Nat) : Int), .bool cm, .int .u8 sec, .bool sk, .slice Ae ys.length ce, .int .i64 ((line : Nat) : Int), er] 54 (0, 0)) :: (mb ++ mr)) := ⟨rd, A, l, c, r0, mb, mr, rfl, hbuf, hrd, hr0, hvX, hdr, hsz, hpX⟩
     have H1 := HH.errIn H
     have hcon := gt.synErr_ wb _ _ _ g X q v cm M sec sk _ _ er hDq H1 p0 (by omega) hqv (by omega) 89 (.pointer (some ⟨gn, 0, none⟩))
     refine l_call S rfl rfl Tryd.func40 rfl rfl (hcon) rfl rfl rfl ?_
     rintro e w ⟨gf, D2, rfl, hD2, hH, hK2⟩
     refine ⟨_, rfl, ?_⟩; clear S a; intro a S
     clear H hcon H1; have H := hH; clear hH
     refine l_pure S (p_assign rfl) rfl rfl rfl ?_; clear S a; intro a S
     refine l_pure S (p_assign rfl) rfl rfl rfl ?_; clear S a; intro a S
     refine l_pure S (p_assign rfl) rfl rfl rfl ?_; clear S a; intro a S
     refine l_nil ?_
     refine e_then ?_
     refine wp_ret ?_
     refine e_then_ret ?_
     refine e_sc_ret ?_
     have hn := hI.n
     rw [hn, hln, htx]
     have H2 : HH wb.heap.size wb _ (D2 ++ (((gf, _) :: (gn, _) :: G) ++ (E ++ L0))) := H.perm (List.perm_middle (l₁ := D2) (a := (gf, _)) (l₂ := (gn, _) :: (G ++ (E ++ L0)))).symm
     have hctc : ((X.take q).drop p0).length ≤ _ := hsbc
     exact r_ret3 S rfl rfl rfl rfl ⟨_, _, _, Ae, ce, ys, v, cm, M, D2, E, (gf, _) :: (gn, _) :: G, _, rfl, hD2, hOw, ⟨xs, hys, by omega⟩, H2, Keeps_two (Keeps_head hK hK2 rfl), KeepsE_two hKE, hqv, (HeldT.keeps (hheld _ _ _ _ _ _ _ _ _) hK2), hctc, .inr ⟨c18, rfl, gf, _, _, rfl, List.mem_cons_self⟩⟩
    ·
     have c18 := bc18
     replace c18 := not_eq_false_ c18
     
     refine wp_skip ?_
     refine e_then ?_
     refine wp_seq ?_
     refine c_region ?_
     refine l_pure S (p_move rfl) rfl rfl rfl ?_; clear S a; intro a S
     refine l_pure S (p_move rfl) rfl rfl rfl ?_; clear S a; intro a S
     refine l_pure S (p_assign rfl) rfl rfl rfl ?_; clear S a; intro a S
     refine l_pure S (p_assign rfl) rfl rfl rfl ?_; clear S a; intro a S
     refine l_pure S (p_assign rfl) rfl rfl rfl ?_; clear S a; intro a S
     refine l_nil ?_
     refine e_then ?_
     refine wp_ret ?_
     refine e_sc_ret ?_
     have hn := hI.n
     rw [hn, hln, htx]
     have hctc : ((X.take q).drop p0).length ≤ _ := hsbc
     exact r_ret3 S rfl rfl rfl rfl ⟨_, _, _, Ae, ce, ys, v, cm, M, _, E, G, sec, rfl, ⟨rd, A, l, c, r0, mb, mr, rfl, hbuf, hrd, hr0, hvX, hdr, hsz, hpX⟩, hOw, ⟨xs, hys, by omega⟩, dc.open_.2 H, hK.then_head rfl, hKE, hqv, (hheld _ _ _ _ _ _ _ _ _), hctc, .inl ⟨c18, rfl, rfl⟩⟩
 ·
  refine wp_block ?_
  refine c_loop (σ := Nat × Nat × Nat × Bool × Nat × dc.Bk × dc.Bk × dc.Bk × Option Addr × Nat × List Int × List Int) (fun s_ a w => match s_ with | ⟨q, se, v, cm, M, D, G, E, Ae, ce, ys, xs⟩ => SL a 242 [] [(0, .pointer (some ⟨g, 0, none⟩)), (1, .pointer (some ⟨gs, 0, none⟩)), (2, .pointer (some ⟨ge, 256, none⟩)), (9, .int .i64 (p0 : Int)), (10, .int .i64 (se : Int)), (11, .int .i64 (el.length : Int))] ∧ HH (wb.heap.size) wb w (D ++ (G ++ (E ++ L0))) ∧ (dc.Dec TY wb g X q v cm M sec sk (.slice Ae ys.length ce) line er D ∧ OwnB 5 (.slice Ae ys.length ce) ys E ∧ dc.Keeps D0 D G ∧ KeepsE (.slice A0 el.length c0) E0 (.slice Ae ys.length ce) E G ∧ ys = el ++ xs ∧ TkI sp hh sk X p0 q se xs)) (fun s_ => match s_ with | ⟨q, se, v, cm, M, D, G, E, Ae, ce, ys, xs⟩ => X.length - q) ⟨p0, p0, v0, cm0, M0, _, [], E0, A0, c0, el, []⟩ ⟨S.only ⟨rfl, rfl, rfl, rfl, rfl, rfl, trivial⟩, H, ⟨hD0, hOw0, dc.Keeps.refl _, KeepsE.refl _ _ _, (List.append_nil _).symm, TkI.start hpX⟩⟩ ?_
  clear S a H; rintro ⟨q, se, v, cm, M, D, G, E, Ae, ce, ys, xs⟩ a w ⟨S, H, hinv⟩
  obtain ⟨hD, hOw, hK, hKE, hys, hI⟩ := hinv
  have hqX := hI.2.2.1
  refine wp_block ?_
  refine wp_seq ?_
  refine wp_seq ?_
  refine c_region ?_
  refine l_pure S (p_move rfl) rfl rfl rfl ?_; clear S a; intro a S
  have hcon := dec.ge.ensure_ wb _ D (G ++ (E ++ L0)) g X q v cm M sec sk (.slice Ae ys.length ce) line er hD H 1 (by omega) ae hE hlt
  refine l_call S rfl rfl Tryd.func27 rfl rfl (hcon) rfl rfl rfl ?_
  rintro e w ⟨rfl, v1, cm1, M1, D1, hD1, G1, hH, hK1, hv1, hw1⟩
  refine ⟨_, rfl, ?_⟩; clear S a; intro a S
  clear H hcon; have H := hH; clear hH; rw [← List.append_assoc G1 G] at H
  refine l_pure S (p_not rfl) rfl rfl rfl ?_; clear S a; intro a S
  refine l_nil ?_
  refine e_then ?_
  refine c_cond S rfl (fun bc21 => ?_) (fun bc21 => ?_)
  ·
   have c21 := bc21
   replace c21 := not_eq_true_ c21
   have c21 := of_decide_eq_false c21
   have hall := hw1 (by omega)
   have hqe : q = X.length := by omega
   refine wp_exit ?_
   refine e_then_exit ?_
   refine e_in_other rfl ?_
   refine e_then_exit ?_
   refine e_in_exit ?_
   refine e_then ?_
   exact ⟨q, se, v1, cm1, M1, D1, G1 ++ G, E, Ae, ce, ys, xs, S.only ⟨rfl, rfl, rfl, rfl, rfl, rfl, trivial⟩, H, ⟨hD1, hOw, hK.trans hK1, hKE.more G1, hys, hI.stop (tk_nil (by omega)), by omega⟩⟩
  ·
   have c21 := bc21
   replace c21 := not_eq_false_ c21
   have c21 := of_decide_eq_true c21
   have hq1 := hv1 (by omega)
   obtain ⟨rd, A, l, c, r0, mb, mr, hDe, hbuf, hrd, hr0, hvX, hdr, hsz, hpX⟩ := id hD1
   subst hDe
   replace H := dc.open_.1 H
   have hlc := hbuf.1
   refine wp_skip ?_
   refine e_then ?_
   refine wp_seq ?_
   refine d_start (id := 5) [] 10 #[false, false, false, false, false, false, false, false, false, false] H rfl rfl rfl (fun w H => ?_)
   refine d_pure (i := 0) #[true, false, false, false, false, false, false, false, false, false] S rfl (p_move rfl) (wanted_none rfl) rfl rfl (by kernel_rfl) (fun _ _ _ h => h) ?_; clear S a; intro a S
   refine d_pure (i := 1) #[true, true, false, false, false, false, false, false, false, false] S rfl (p_nilCheck rfl) (wanted_none rfl) rfl rfl (by kernel_rfl) (fun _ _ _ h => h) ?_; clear S a; intro a S
   refine d_pure (i := 2) #[true, true, true, false, false, false, false, false, false, false] S rfl (p_fieldAddr rfl (fun w => fa54_1 w _ _)) (wanted_none rfl) rfl rfl (by kernel_rfl) (fun _ _ _ h => h) ?_; clear S a; intro a S
   refine d_read (i := 3) #[true, true, true, true, false, false, false, false, false, false] S H rfl (r_load rfl List.mem_cons_self rfl (fun w hc => ld1 ag32 hc)) (wanted_none rfl) rfl rfl (by kernel_rfl) (fun _ _ _ h => h) ?_; clear S a; intro a S
   refine d_pure (i := 4) #[true, true, true, true, true, false, false, false, false, false] S rfl (p_move rfl) (wanted_none rfl) rfl rfl (by kernel_rfl) (fun _ _ _ h => h) ?_; clear S a; intro a S
   refine d_pure (i := 5) #[true, true, true, true, true, true, false, false, false, false] S rfl (p_nilCheck rfl) (wanted_none rfl) rfl rfl (by kernel_rfl) (fun _ _ _ h => h) ?_; clear S a; intro a S
   refine d_pure (i := 6) #[true, true, true, true, true, true, true, false, false, false] S rfl (p_fieldAddr rfl (fun w => fa54_3 w _ _)) (wanted_none rfl) rfl rfl (by kernel_rfl) (fun _ _ _ h => h) ?_; clear S a; intro a S
   refine d_read (i := 7) #[true, true, true, true, true, true, true, true, false, false] S H rfl (r_load rfl List.mem_cons_self rfl (fun w hc => ld1 ag3 hc)) (wanted_none rfl) rfl rfl (by kernel_rfl) (fun _ _ _ h => h) ?_; clear S a; intro a S
   refine d_pure (i := 8) #[true, true, true, true, true, true, true, true, true, false] S rfl (p_slice rfl (o_some rfl) (fun _ _ => o_none) (fun _ _ => o_none) (fun w => sl_sb_lo (m := r0 + q) Tryd.underlying32 sz5 rfl (by omega))) (wanted_none rfl) rfl rfl (by kernel_rfl) (fun _ _ _ h => h) ?_; clear S a; intro a S
   refine d_pure (i := 9) #[true, true, true, true, true, true, true, true, true, true] S rfl (p_assign rfl) (wanted_none rfl) rfl rfl (by kernel_rfl) (fun _ _ _ h => h) ?_; clear S a; intro a S
   refine d_done (by kernel_rfl) ?_
   refine e_then ?_
   refine wp_seq ?_
   refine wp_seq ?_
   refine c_region ?_
   refine l_pure S (p_assign rfl) rfl rfl rfl ?_; clear S a; intro a S
   refine l_nil ?_
   refine e_then ?_
   refine wp_block ?_
   clear hlc
   refine c_loop (σ := Nat × Nat × Nat × Bool × Nat × Value × Option Addr × List Int × Nat × Nat × dc.Bk × dc.Bk × dc.Bk × dc.Bk × Option Addr × Nat × List Int × List Int) (fun s_ a w => match s_ with | ⟨i, se, v, cm, M, rd, A, l, c, r0, mb, mr, G, E, Ae, ce, ys, xs⟩ => SL a 242 [] [(0, .pointer (some ⟨g, 0, none⟩)), (1, .pointer (some ⟨gs, 0, none⟩)), (2, .pointer (some ⟨ge, 256, none⟩)), (9, .int .i64 (p0 : Int)), (10, .int .i64 (se : Int)), (11, .int .i64 (el.length : Int)), (12, .slice (cutAt A c (r0 + q) 1) (l.drop (r0 + q)).length (c - (r0 + q))), (13, .int .i64 (i : Int))] ∧ HH (wb.heap.size) wb w ((g, .cells #[rd, .slice A l.length c, .int .i64 (r0 : Int), .int .i64 ((r0 + q : Nat) : Int), .bool cm, .int .u8 sec, .bool sk, .slice Ae ys.length ce, .int .i64 (line : Int), er] 54 (0, 0)) :: (mb ++ (mr ++ (G ++ (E ++ L0))))) ∧ (DecO TY wb X q v cm M rd A l c r0 mb mr ∧ OwnB 5 (.slice Ae ys.length ce) ys E ∧ dc.Keeps D0 ((g, .cells #[rd, .slice A l.length c, .int .i64 (r0 : Int), .int .i64 ((r0 + q : Nat) : Int), .bool cm, .int .u8 sec, .bool sk, .slice Ae ys.length ce, .int .i64 (line : Int), er] 54 (0, 0)) :: (mb ++ mr)) G ∧ KeepsE (.slice A0 el.length c0) E0 (.slice Ae ys.length ce) E G ∧ ys = el ++ xs ∧ TkI sp hh sk X p0 (q + i) se xs ∧ (q + i ≤ v ∧ q < v))) (fun s_ => match s_ with | ⟨i, se, v, cm, M, rd, A, l, c, r0, mb, mr, G, E, Ae, ce, ys, xs⟩ => X.length - (q + i)) ⟨0, se, v1, cm1, M1, rd, A, l, c, r0, mb, mr, G1 ++ G, E, Ae, ce, ys, xs⟩ ⟨S.only ⟨rfl, rfl, rfl, rfl, rfl, rfl, rfl, rfl, trivial⟩, H, ⟨⟨hbuf, hrd, hr0, hvX, hdr, hsz, hpX⟩, hOw, hK.trans hK1, hKE.more G1, hys, hI, ⟨by omega, by omega⟩⟩⟩ ?_
   clear S a H; rintro ⟨i, se, v, cm, M, rd, A, l, c, r0, mb, mr, G, E, Ae, ce, ys, xs⟩ a w ⟨S, H, hinv⟩
   obtain ⟨hO, hOw, hK, hKE, hys, hI, hiv, hqv⟩ := hinv
   obtain ⟨hbuf, hrd, hr0, hvX, hdr, hsz, hpX⟩ := id hO
   have hlc := hbuf.1
   have hlq : (l.drop (r0 + q)).length = v - q := by rw [List.length_drop]; omega
   have hxl := hI.xs_le
   have hse := hI.2.1
   have hyl : ys.length = el.length + xs.length := by rw [hys, List.length_append]
   refine wp_seq ?_
   refine wp_seq ?_
   refine c_region ?_
   refine l_pure S (p_move rfl) rfl rfl rfl ?_; clear S a; intro a S
   refine l_pure S (p_move rfl) rfl rfl rfl ?_; clear S a; intro a S
   refine l_pure S (p_len Tryd.underlying32 rfl) rfl rfl rfl ?_; clear S a; intro a S
   refine l_pure S (p_lss rfl rfl) rfl rfl rfl ?_; clear S a; intro a S
   refine l_nil ?_
   refine e_then ?_
   refine c_cond S rfl (fun bc23 => ?_) (fun bc23 => ?_)
   ·
    have c23 := bc23
    have c23 := of_decide_eq_true c23
    have hiq : i < v - q := by omega
    obtain ⟨gb, cs, fb, rfl, hcs, rfl, _, hrow⟩ := hbuf.ex (by omega)
    replace H : HH wb.heap.size wb _ ((g, _) :: (gb, .cells cs 5 fb) :: (mr ++ (G ++ (E ++ L0)))) := H
    have hcut : cutAt (some ⟨gb, 0, none⟩) c (r0 + q) 1 = some ⟨gb, r0 + q, none⟩ := by rw [cutAt_off, show offAt 0 c (r0 + q) = 0 + (r0 + q) from if_neg (by omega), Nat.zero_add]
    refine wp_skip ?_
    refine e_then ?_
    refine wp_seq ?_
    refine wp_block ?_
    refine wp_seq ?_
    refine c_region ?_
    refine l_pure S (p_move rfl) rfl rfl rfl ?_; clear S a; intro a S
    refine l_pure S (p_move rfl) rfl rfl rfl ?_; clear S a; intro a S
    refine l_pure S (p_indexAddr (u := .slice (some ⟨gb, r0 + q, none⟩) (l.drop (r0 + q)).length (c - (r0 + q))) (by rw [← hcut]; rfl) rfl (fun w => ia_slice Tryd.underlying32 sz5 (by omega) (by omega))) rfl rfl rfl ?_; clear S a; intro a S
    refine l_read S H (r_load rfl (List.mem_cons_of_mem _ List.mem_cons_self) (row_at hrow (i := r0 + q + i) (by omega) (by omega)) (fun w hc => ld1 ag5 hc)) rfl rfl rfl ?_; clear S a; intro a S
    obtain ⟨b, hb, hbl⟩ := byte_nat hXb (i := q + i) (by omega)
    rw [dc.at_vis hdr hr0 (show q + i < v by omega) hvX, hb] at S
    refine l_pure S (p_assign rfl) rfl rfl rfl ?_; clear S a; intro a S
    refine l_nil ?_
    refine e_then ?_
    refine wp_seq ?_
    refine wp_seq ?_
    refine c_region ?_
    refine l_pure S (p_move rfl) rfl rfl rfl ?_; clear S a; intro a S
    refine l_pure S (p_neq rfl rfl) rfl rfl rfl ?_; clear S a; intro a S
    refine l_nil ?_
    refine e_then ?_
    refine c_cond S rfl (fun bc25 => ?_) (fun bc25 => ?_)
    ·
     have c25 := bc25
     have c25 := bne_iff_ne.1 c25
     refine wp_seq ?_
     refine wp_seq ?_
     refine c_region ?_
     refine l_pure S (p_move rfl) rfl rfl rfl ?_; clear S a; intro a S
     refine l_pure S (p_move rfl) rfl rfl rfl ?_; clear S a; intro a S
     have hcon := st.bget wb _ _ _ gs b sp (by omega) (List.mem_cons_of_mem _ (List.mem_cons_of_mem _ (List.mem_append_right _ (List.mem_append_right _ (List.mem_append_right _ hgs))))) H
     refine l_call S rfl rfl Tryd.func37 rfl rfl (hcon) rfl rfl rfl ?_
     rintro e w ⟨rfl, hH⟩
     refine ⟨_, rfl, ?_⟩; clear S a; intro a S
     clear H hcon; have H := hH; clear hH
     refine l_pure S (p_not rfl) rfl rfl rfl ?_; clear S a; intro a S
     refine l_nil ?_
     refine e_then ?_
     refine c_cond S rfl (fun bc28 => ?_) (fun bc28 => ?_)
     ·
      have c28 := bc28
      replace c28 := not_eq_true_ c28
      
      refine wp_seq ?_
      refine c_region ?_
      refine l_pure S (p_move rfl) rfl rfl rfl ?_; clear S a; intro a S
      refine l_pure S (p_nilCheck rfl) rfl rfl rfl ?_; clear S a; intro a S
      refine l_pure S (p_fieldAddr rfl (fun w => fa54_3 w _ _)) rfl rfl rfl ?_; clear S a; intro a S
      refine l_read S H (r_load rfl List.mem_cons_self rfl (fun w hc => ld1 ag3 hc)) rfl rfl rfl ?_; clear S a; intro a S
      refine l_pure S (p_move rfl) rfl rfl rfl ?_; clear S a; intro a S
      refine l_pure S (p_add (r := ((r0 + (q + i) : Nat) : Int)) rfl rfl ((IntWalk.i64_in _ (by omega)).trans (by omega))) rfl rfl rfl ?_; clear S a; intro a S
      refine l_pure S (p_nilCheck rfl) rfl rfl rfl ?_; clear S a; intro a S
      refine l_pure S (p_fieldAddr rfl (fun w => fa54_3 w _ _)) rfl rfl rfl ?_; clear S a; intro a S
      refine l_store S H rfl rfl rfl .here (by first | decide | simp [Value.cells]) (fun w u hc hz => st1 sz3 rfl hc hz) rfl rfl ?_; clear S a H; intro w a H S
      refine l_nil ?_
      refine e_then ?_
      refine wp_exit ?_
      replace H := (HH.close2 H)
      refine e_then_exit ?_
      refine e_then_exit ?_
      refine e_in_other rfl ?_
      refine e_then_exit ?_
      refine e_then_exit ?_
      refine e_in_other rfl ?_
      refine e_then_exit ?_
      refine e_in_other rfl ?_
      refine e_then_exit ?_
      refine e_in_exit ?_
      refine e_then ?_
      exact ⟨q + i, se, v, cm, M, _, G, E, Ae, ce, ys, xs, S.only ⟨rfl, rfl, rfl, rfl, rfl, rfl, trivial⟩, H, ⟨⟨rd, _, l, c, r0, _, mr, rfl, hbuf, hrd, hr0, hvX, hdr, hsz, by omega⟩, hOw, hK.then_head rfl, hKE, hys, hI.stop (tk_stop (by omega) (by rw [hb]; omega) (by rw [hb, Int.toNat_natCast]; exact c28)), by omega⟩⟩
     ·
      have c28 := bc28
      replace c28 := not_eq_false_ c28
      
      refine wp_skip ?_
      refine e_then ?_
      refine wp_exit ?_
      refine e_then_exit ?_
      refine e_in_exit ?_
      refine e_then ?_
      refine c_region ?_
      refine l_pure S (p_move rfl) rfl rfl rfl ?_; clear S a; intro a S
      refine l_pure S (p_add rfl rfl (nat_add (x := i) (y := 1) (by omega))) rfl rfl rfl ?_; clear S a; intro a S
      refine l_pure S (p_assign rfl) rfl rfl rfl ?_; clear S a; intro a S
      refine l_nil ?_
      refine e_then ?_
      exact ⟨⟨(i + 1), se, v, cm, M, rd, some ⟨gb, 0, none⟩, l, c, r0, [(gb, .cells cs 5 fb)], mr, G, E, Ae, ce, ys, xs⟩, ⟨S.only ⟨rfl, rfl, rfl, rfl, rfl, rfl, rfl, rfl, trivial⟩, H, ⟨hO, hOw, hK, hKE, hys, hI.ord (by omega) (by rw [hb]; omega) (by rw [hb, Int.toNat_natCast]; exact c28), ⟨by omega, by omega⟩⟩⟩, (show X.length - (q + (i + 1)) < X.length - (q + i) from by omega)⟩
    ·
     have c25 := bc25
     have c25 := bne_eq_false_iff_eq.1 c25
     refine wp_skip ?_
     refine e_then ?_
     refine wp_seq ?_
     refine wp_seq ?_
     refine c_region ?_
     refine l_pure S (p_move rfl) rfl rfl rfl ?_; clear S a; intro a S
     refine l_pure S (p_add rfl rfl (nat_add (x := i) (y := 1) (by omega))) rfl rfl rfl ?_; clear S a; intro a S
     refine l_pure S (p_move rfl) rfl rfl rfl ?_; clear S a; intro a S
     refine l_pure S (p_len Tryd.underlying32 rfl) rfl rfl rfl ?_; clear S a; intro a S
     refine l_pure S (p_geq rfl rfl) rfl rfl rfl ?_; clear S a; intro a S
     refine l_nil ?_
     refine e_then ?_
     refine c_cond S rfl (fun bc30 => ?_) (fun bc30 => ?_)
     ·
      have c30 := bc30
      have c30 := of_decide_eq_true c30
      refine wp_seq ?_
      refine wp_seq ?_
      refine c_region ?_
      refine l_pure S (p_move rfl) rfl rfl rfl ?_; clear S a; intro a S
      refine l_pure S (p_move rfl) rfl rfl rfl ?_; clear S a; intro a S
      refine l_pure S (p_add rfl rfl (nat_add (x := i) (y := 2) (by omega))) rfl rfl rfl ?_; clear S a; intro a S
      have hDq : dc.Dec TY wb g X q v cm M sec sk (.slice Ae ys.length ce) line er ((g, .cells #[rd, .slice (some ⟨gb, 0, none⟩) l.length c, .int .i64 (r0 : Int), .int .i64 ((r0 + q : Nat) : Int), .bool cm, .int .u8 sec, .bool sk, .slice Ae ys.length ce, .int .i64 (line : Int), er] 54 (0, 0)) :: ([(gb, .cells cs 5 fb)] ++ mr)) := ⟨rd, _, l, c, r0, _, mr, rfl, hbuf, hrd, hr0, hvX, hdr, hsz, hpX⟩
      have hcon := dec.ge.ensure_ wb _ _ (G ++ (E ++ L0)) g X q v cm M sec sk (.slice Ae ys.length ce) line er hDq (HH.close2 H) (i + 2) (by omega) ae hE hlt
      refine l_call S rfl rfl Tryd.func27 rfl rfl (hcon) rfl rfl rfl ?_
      rintro e w ⟨rfl, v1, cm1, M1, D1, hD1, G1, hH, hK1, hv1, hw1⟩
      refine ⟨_, rfl, ?_⟩; clear S a; intro a S
      clear H hcon hDq; have H := hH; clear hH; rw [← List.append_assoc G1 G] at H
      obtain ⟨rd', A', l', c', r0', mb', mr', hDe, hbuf', hrd', hr0', hvX', hdr', hsz', hpX'⟩ := id hD1
      subst hDe
      replace H := dc.open_.1 H
      have hlc' := hbuf'.1
      refine l_pure S (p_not rfl) rfl rfl rfl ?_; clear S a; intro a S
      refine l_nil ?_
      refine e_then ?_
      refine c_cond S rfl (fun bc33 => ?_) (fun bc33 => ?_)
      ·
       have c33 := bc33
       replace c33 := not_eq_true_ c33
       have c33 := of_decide_eq_false c33
       have hall := hw1 (by omega)
       have hll' : l'.length = r0' + X.length := by omega
       refine wp_seq ?_
       refine c_region ?_
       refine l_pure S (p_move rfl) rfl rfl rfl ?_; clear S a; intro a S
       refine l_pure S (p_move rfl) rfl rfl rfl ?_; clear S a; intro a S
       refine l_pure S (p_nilCheck rfl) rfl rfl rfl ?_; clear S a; intro a S
       refine l_pure S (p_fieldAddr rfl (fun w => fa54_1 w _ _)) rfl rfl rfl ?_; clear S a; intro a S
       refine l_read S H (r_load rfl List.mem_cons_self rfl (fun w hc => ld1 ag32 hc)) rfl rfl rfl ?_; clear S a; intro a S
       refine l_pure S (p_len Tryd.underlying32 rfl) rfl rfl rfl ?_; clear S a; intro a S
       refine l_pure S (p_nilCheck rfl) rfl rfl rfl ?_; clear S a; intro a S
       refine l_pure S (p_fieldAddr rfl (fun w => fa54_3 w _ _)) rfl rfl rfl ?_; clear S a; intro a S
       rw [hll'] at S
       refine l_store S H rfl rfl rfl .here (by first | decide | simp [Value.cells]) (fun w u hc hz => st1 sz3 rfl hc hz) rfl rfl ?_; clear S a H; intro w a H S
       refine l_nil ?_
       refine e_then ?_
       refine wp_exit ?_
       replace H := (dc.open_.2 H)
       refine e_then_exit ?_
       refine e_then_exit ?_
       refine e_in_other rfl ?_
       refine e_then_exit ?_
       refine e_then_exit ?_
       refine e_in_other rfl ?_
       refine e_then_exit ?_
       refine e_in_other rfl ?_
       refine e_then_exit ?_
       refine e_in_exit ?_
       refine e_then ?_
       exact ⟨X.length, se, v1, cm1, M1, _, G1 ++ G, E, Ae, ce, ys, xs, S.only ⟨rfl, rfl, rfl, rfl, rfl, rfl, trivial⟩, H, ⟨⟨rd', A', l', c', r0', mb', mr', rfl, hbuf', hrd', hr0', hvX', hdr', hsz', Nat.le_refl _⟩, hOw, (hK.trans hK1).then_head rfl, hKE.more G1, hys, hI.last (by omega) (by rw [hb]; omega), by omega⟩⟩
      ·
       have c33 := bc33
       replace c33 := not_eq_false_ c33
       have c33 := of_decide_eq_true c33
       have hq2 := hv1 (by omega)
       obtain ⟨gb', cs', fb', rfl, hcs', rfl, _, hrow'⟩ := hbuf'.ex (by omega)
       replace H : HH wb.heap.size wb _ ((g, _) :: (gb', .cells cs' 5 fb') :: (mr' ++ ((G1 ++ G) ++ (E ++ L0)))) := H
       have hcut' : cutAt (some ⟨gb', 0, none⟩) c' (r0' + q) 1 = some ⟨gb', r0' + q, none⟩ := by rw [cutAt_off, show offAt 0 c' (r0' + q) = 0 + (r0' + q) from if_neg (by omega), Nat.zero_add]
       have hlq' : (l'.drop (r0' + q)).length = v1 - q := by rw [List.length_drop]; omega
       refine wp_skip ?_
       refine e_then ?_
       refine d_start (id := 16) [] 10 #[false, false, false, false, false, false, false, false, false, false] H rfl rfl rfl (fun w H => ?_)
       refine d_pure (i := 0) #[true, false, false, false, false, false, false, false, false, false] S rfl (p_move rfl) (wanted_none rfl) rfl rfl (by kernel_rfl) (fun _ _ _ h => h) ?_; clear S a; intro a S
       refine d_pure (i := 1) #[true, true, false, false, false, false, false, false, false, false] S rfl (p_nilCheck rfl) (wanted_none rfl) rfl rfl (by kernel_rfl) (fun _ _ _ h => h) ?_; clear S a; intro a S
       refine d_pure (i := 2) #[true, true, true, false, false, false, false, false, false, false] S rfl (p_fieldAddr rfl (fun w => fa54_1 w _ _)) (wanted_none rfl) rfl rfl (by kernel_rfl) (fun _ _ _ h => h) ?_; clear S a; intro a S
       refine d_read (i := 3) #[true, true, true, true, false, false, false, false, false, false] S H rfl (r_load rfl List.mem_cons_self rfl (fun w hc => ld1 ag32 hc)) (wanted_none rfl) rfl rfl (by kernel_rfl) (fun _ _ _ h => h) ?_; clear S a; intro a S
       refine d_pure (i := 4) #[true, true, true, true, true, false, false, false, false, false] S rfl (p_move rfl) (wanted_none rfl) rfl rfl (by kernel_rfl) (fun _ _ _ h => h) ?_; clear S a; intro a S
       refine d_pure (i := 5) #[true, true, true, true, true, true, false, false, false, false] S rfl (p_nilCheck rfl) (wanted_none rfl) rfl rfl (by kernel_rfl) (fun _ _ _ h => h) ?_; clear S a; intro a S
       refine d_pure (i := 6) #[true, true, true, true, true, true, true, false, false, false] S rfl (p_fieldAddr rfl (fun w => fa54_3 w _ _)) (wanted_none rfl) rfl rfl (by kernel_rfl) (fun _ _ _ h => h) ?_; clear S a; intro a S
       refine d_read (i := 7) #[true, true, true, true, true, true, true, true, false, false] S H rfl (r_load rfl List.mem_cons_self rfl (fun w hc => ld1 ag3 hc)) (wanted_none rfl) rfl rfl (by kernel_rfl) (fun _ _ _ h => h) ?_; clear S a; intro a S
       refine d_pure (i := 8) #[true, true, true, true, true, true, true, true, true, false] S rfl (p_slice rfl (o_some rfl) (fun _ _ => o_none) (fun _ _ => o_none) (fun w => sl_sb_lo (m := r0' + q) Tryd.underlying32 sz5 rfl (by omega))) (wanted_none rfl) rfl rfl (by kernel_rfl) (fun _ _ _ h => h) ?_; clear S a; intro a S
       refine d_pure (i := 9) #[true, true, true, true, true, true, true, true, true, true] S rfl (p_assign rfl) (wanted_none rfl) rfl rfl (by kernel_rfl) (fun _ _ _ h => h) ?_; clear S a; intro a S
       refine d_done (by kernel_rfl) ?_
       refine e_then ?_
       refine wp_seq ?_
       refine d_start (id := 17) [] 10 #[false, false, false, false, false, false, false, false, false, false] H rfl rfl rfl (fun w H => ?_)
       refine d_pure (i := 0) #[true, false, false, false, false, false, false, false, false, false] S rfl (p_move rfl) (wanted_none rfl) rfl rfl (by kernel_rfl) (fun _ _ _ h => h) ?_; clear S a; intro a S
       refine d_pure (i := 1) #[true, true, false, false, false, false, false, false, false, false] S rfl (p_move rfl) (wanted_none rfl) rfl rfl (by kernel_rfl) (fun _ _ _ h => h) ?_; clear S a; intro a S
       refine d_pure (i := 2) #[true, true, true, false, false, false, false, false, false, false] S rfl (p_move rfl) (wanted_none rfl) rfl rfl (by kernel_rfl) (fun _ _ _ h => h) ?_; clear S a; intro a S
       refine d_pure (i := 3) #[true, true, true, true, false, false, false, false, false, false] S rfl (p_add rfl rfl (nat_add (x := i) (y := 1) (by omega))) (wanted_none rfl) rfl rfl (by kernel_rfl) (fun _ _ _ h => h) ?_; clear S a; intro a S
       refine d_pure (i := 4) #[true, true, true, true, true, false, false, false, false, false] S rfl (p_indexAddr (u := .slice (some ⟨gb', r0' + q, none⟩) (l'.drop (r0' + q)).length (c' - (r0' + q))) (by rw [← hcut']; rfl) rfl (fun w => ia_slice Tryd.underlying32 sz5 (by omega) (by omega))) (wanted_none rfl) rfl rfl (by kernel_rfl) (fun _ _ _ h => h) ?_; clear S a; intro a S
       refine d_read (i := 5) #[true, true, true, true, true, true, false, false, false, false] S H rfl (r_load rfl (List.mem_cons_of_mem _ List.mem_cons_self) (row_at hrow' (i := r0' + q + (i + 1)) (by omega) (by omega)) (fun w hc => ld1 ag5 hc)) (wanted_none rfl) rfl rfl (by kernel_rfl) (fun _ _ _ h => h) ?_; clear S a; intro a S
       obtain ⟨b2, hb2, hb2l⟩ := byte_nat hXb (i := q + (i + 1)) (by omega)
       rw [dc.at_vis hdr' hr0' (show q + (i + 1) < v1 by omega) hvX', hb2] at S
       refine d_pure (i := 6) #[true, true, true, true, true, true, true, false, false, false] S rfl (p_nilCheck rfl) (wanted_none rfl) rfl rfl (by kernel_rfl) (fun _ _ _ h => h) ?_; clear S a; intro a S
       refine d_pure (i := 7) #[true, true, true, true, true, true, true, true, false, false] S rfl (p_indexAddr rfl rfl (fun w => ia_array Tryd.underlying63 sz5 (by omega) (by omega))) (wanted_none rfl) rfl rfl (by kernel_rfl) (fun _ _ _ h => h) ?_; clear S a; intro a S
       refine d_read (i := 8) #[true, true, true, true, true, true, true, true, true, false] S H rfl (r_load (v := .int .u8 (hh b2 : Int)) rfl (List.mem_cons_of_mem _ (List.mem_cons_of_mem _ (List.mem_append_right _ (List.mem_append_right _ (List.mem_append_right _ hge))))) (by rw [show 256 + ((b2 : Nat) : Int).toNat * 1 = 256 + b2 by omega]; exact hec b2 hb2l) (fun w hc => ld1 ag5 hc)) (wanted_none rfl) rfl rfl (by kernel_rfl) (fun _ _ _ h => h) ?_; clear S a; intro a S
       refine d_pure (i := 9) #[true, true, true, true, true, true, true, true, true, true] S rfl (p_assign rfl) (wanted_none rfl) rfl rfl (by kernel_rfl) (fun _ _ _ h => h) ?_; clear S a; intro a S
       refine d_done (by kernel_rfl) ?_
       refine e_then ?_
       refine wp_seq ?_
       refine wp_seq ?_
       refine c_region ?_
       refine l_pure S (p_move rfl) rfl rfl rfl ?_; clear S a; intro a S
       refine l_pure S (p_eql rfl rfl) rfl rfl rfl ?_; clear S a; intro a S
       refine l_nil ?_
       refine e_then ?_
       refine c_cond S rfl (fun bc35 => ?_) (fun bc35 => ?_)
       ·
        have c35 := bc35
        have c35 := eq_of_beq c35
        refine wp_exit ?_
        refine e_then_exit ?_
        refine e_in_exit ?_
        refine e_then ?_
        refine c_region ?_
        refine l_pure S (p_move rfl) rfl rfl rfl ?_; clear S a; intro a S
        refine l_pure S (p_add rfl rfl (nat_add (x := i) (y := 1) (by omega))) rfl rfl rfl ?_; clear S a; intro a S
        refine l_pure S (p_assign rfl) rfl rfl rfl ?_; clear S a; intro a S
        refine l_nil ?_
        refine e_then ?_
        exact ⟨⟨(i + 1), se, v1, cm1, M1, rd', some ⟨gb', 0, none⟩, l', c', r0', [(gb', .cells cs' 5 fb')], mr', (G1 ++ G), E, Ae, ce, ys, xs⟩, ⟨S.only ⟨rfl, rfl, rfl, rfl, rfl, rfl, rfl, rfl, trivial⟩, H, ⟨⟨hbuf', hrd', hr0', hvX', hdr', hsz', hpX'⟩, hOw, hK.trans hK1, hKE.more G1, hys, hI.bs (by omega) (by rw [hb]; omega) (by rw [Nat.add_assoc, hb2, Int.toNat_natCast]; omega), ⟨by omega, by omega⟩⟩⟩, (show X.length - (q + (i + 1)) < X.length - (q + i) from by omega)⟩
       ·
        have c35 := bc35
        have c35 := ne_of_beq_false c35
        have hne : hh (X.getD (q + i + 1) 0).toNat ≠ 0 := by rw [Nat.add_assoc, hb2, Int.toNat_natCast]; omega
        have heb : hh (X.getD (q + i + 1) 0).toNat = hh b2 := by rw [Nat.add_assoc, hb2, Int.toNat_natCast]
        refine wp_skip ?_
        refine e_then ?_
        refine wp_seq ?_
        refine wp_seq ?_
        refine c_region ?_
        refine l_pure S (p_move rfl) rfl rfl rfl ?_; clear S a; intro a S
        refine l_pure S (p_nilCheck rfl) rfl rfl rfl ?_; clear S a; intro a S
        refine l_pure S (p_fieldAddr rfl (fun w => fa54_6 w _ _)) rfl rfl rfl ?_; clear S a; intro a S
        refine l_read S H (r_load rfl List.mem_cons_self rfl (fun w hc => ld1 ag4 hc)) rfl rfl rfl ?_; clear S a; intro a S
        refine l_pure S (p_not rfl) rfl rfl rfl ?_; clear S a; intro a S
        refine l_nil ?_
        refine e_then ?_
        refine c_cond S rfl (fun bc38 => ?_) (fun bc38 => ?_)
        ·
         have c38 := bc38
         replace c38 := not_eq_true_ c38
         
         obtain rfl : sk = false := by simpa using c38
         refine wp_seq ?_
         refine d_start (id := 20) [22, 25] 26 #[false, false, false, false, false, false, false, false, false, false, false, false, false, false, false, false, false, false, false, false, false, false, false, false, false, false] H rfl rfl rfl (fun w H => ?_)
         refine d_pure (i := 0) #[true, false, false, false, false, false, false, false, false, false, false, false, false, false, false, false, false, false, false, false, false, false, false, false, false, false] S rfl (p_move rfl) (wanted_none rfl) rfl rfl (by kernel_rfl) (fun _ _ _ h => h) ?_; clear S a; intro a S
         refine d_pure (i := 1) #[true, true, false, false, false, false, false, false, false, false, false, false, false, false, false, false, false, false, false, false, false, false, false, false, false, false] S rfl (p_move rfl) (wanted_none rfl) rfl rfl (by kernel_rfl) (fun _ _ _ h => h) ?_; clear S a; intro a S
         refine d_pure (i := 2) #[true, true, true, false, false, false, false, false, false, false, false, false, false, false, false, false, false, false, false, false, false, false, false, false, false, false] S rfl (p_nilCheck rfl) (wanted_none rfl) rfl rfl (by kernel_rfl) (fun _ _ _ h => h) ?_; clear S a; intro a S
         refine d_pure (i := 3) #[true, true, true, true, false, false, false, false, false, false, false, false, false, false, false, false, false, false, false, false, false, false, false, false, false, false] S rfl (p_fieldAddr rfl (fun w => fa54_7 w _ _)) (wanted_none rfl) rfl rfl (by kernel_rfl) (fun _ _ _ h => h) ?_; clear S a; intro a S
         refine d_read (i := 4) #[true, true, true, true, true, false, false, false, false, false, false, false, false, false, false, false, false, false, false, false, false, false, false, false, false, false] S H rfl (r_load rfl List.mem_cons_self rfl (fun w hc => ld1 ag32 hc)) (wanted_none rfl) rfl rfl (by kernel_rfl) (fun _ _ _ h => h) ?_; clear S a; intro a S
         refine d_pure (i := 5) #[true, true, true, true, true, true, false, false, false, false, false, false, false, false, false, false, false, false, false, false, false, false, false, false, false, false] S rfl (p_move rfl) (wanted_none rfl) rfl rfl (by kernel_rfl) (fun _ _ _ h => h) ?_; clear S a; intro a S
         refine d_pure (i := 6) #[true, true, true, true, true, true, true, false, false, false, false, false, false, false, false, false, false, false, false, false, false, false, false, false, false, false] S rfl (p_nilCheck rfl) (wanted_none rfl) rfl rfl (by kernel_rfl) (fun _ _ _ h => h) ?_; clear S a; intro a S
         refine d_pure (i := 7) #[true, true, true, true, true, true, true, true, false, false, false, false, false, false, false, false, false, false, false, false, false, false, false, false, false, false] S rfl (p_fieldAddr rfl (fun w => fa54_1 w _ _)) (wanted_none rfl) rfl rfl (by kernel_rfl) (fun _ _ _ h => h) ?_; clear S a; intro a S
         refine d_read (i := 8) #[true, true, true, true, true, true, true, true, true, false, false, false, false, false, false, false, false, false, false, false, false, false, false, false, false, false] S H rfl (r_load rfl List.mem_cons_self rfl (fun w hc => ld1 ag32 hc)) (wanted_none rfl) rfl rfl (by kernel_rfl) (fun _ _ _ h => h) ?_; clear S a; intro a S
         refine d_pure (i := 9) #[true, true, true, true, true, true, true, true, true, true, false, false, false, false, false, false, false, false, false, false, false, false, false, false, false, false] S rfl (p_move rfl) (wanted_none rfl) rfl rfl (by kernel_rfl) (fun _ _ _ h => h) ?_; clear S a; intro a S
         refine d_pure (i := 10) #[true, true, true, true, true, true, true, true, true, true, true, false, false, false, false, false, false, false, false, false, false, false, false, false, false, false] S rfl (p_nilCheck rfl) (wanted_none rfl) rfl rfl (by kernel_rfl) (fun _ _ _ h => h) ?_; clear S a; intro a S
         refine d_pure (i := 11) #[true, true, true, true, true, true, true, true, true, true, true, true, false, false, false, false, false, false, false, false, false, false, false, false, false, false] S rfl (p_fieldAddr rfl (fun w => fa54_2 w _ _)) (wanted_none rfl) rfl rfl (by kernel_rfl) (fun _ _ _ h => h) ?_; clear S a; intro a S
         refine d_read (i := 12) #[true, true, true, true, true, true, true, true, true, true, true, true, true, false, false, false, false, false, false, false, false, false, false, false, false, false] S H rfl (r_load rfl List.mem_cons_self rfl (fun w hc => ld1 ag3 hc)) (wanted_none rfl) rfl rfl (by kernel_rfl) (fun _ _ _ h => h) ?_; clear S a; intro a S
         refine d_pure (i := 13) #[true, true, true, true, true, true, true, true, true, true, true, true, true, true, false, false, false, false, false, false, false, false, false, false, false, false] S rfl (p_move rfl) (wanted_none rfl) rfl rfl (by kernel_rfl) (fun _ _ _ h => h) ?_; clear S a; intro a S
         refine d_pure (i := 14) #[true, true, true, true, true, true, true, true, true, true, true, true, true, true, true, false, false, false, false, false, false, false, false, false, false, false] S rfl (p_add rfl rfl (nat_add (x := r0') (y := se) (by omega))) (wanted_none rfl) rfl rfl (by kernel_rfl) (fun _ _ _ h => h) ?_; clear S a; intro a S
         refine d_pure (i := 15) #[true, true, true, true, true, true, true, true, true, true, true, true, true, true, true, true, false, false, false, false, false, false, false, false, false, false] S rfl (p_move rfl) (wanted_none rfl) rfl rfl (by kernel_rfl) (fun _ _ _ h => h) ?_; clear S a; intro a S
         refine d_pure (i := 16) #[true, true, true, true, true, true, true, true, true, true, true, true, true, true, true, true, true, false, false, false, false, false, false, false, false, false] S rfl (p_nilCheck rfl) (wanted_none rfl) rfl rfl (by kernel_rfl) (fun _ _ _ h => h) ?_; clear S a; intro a S
         refine d_pure (i := 17) #[true, true, true, true, true, true, true, true, true, true, true, true, true, true, true, true, true, true, false, false, false, false, false, false, false, false] S rfl (p_fieldAddr rfl (fun w => fa54_3 w _ _)) (wanted_none rfl) rfl rfl (by kernel_rfl) (fun _ _ _ h => h) ?_; clear S a; intro a S
         refine d_read (i := 18) #[true, true, true, true, true, true, true, true, true, true, true, true, true, true, true, true, true, true, true, false, false, false, false, false, false, false] S H rfl (r_load rfl List.mem_cons_self rfl (fun w hc => ld1 ag3 hc)) (wanted_none rfl) rfl rfl (by kernel_rfl) (fun _ _ _ h => h) ?_; clear S a; intro a S
         refine d_pure (i := 19) #[true, true, true, true, true, true, true, true, true, true, true, true, true, true, true, true, true, true, true, true, false, false, false, false, false, false] S rfl (p_move rfl) (wanted_none rfl) rfl rfl (by kernel_rfl) (fun _ _ _ h => h) ?_; clear S a; intro a S
         refine d_pure (i := 20) #[true, true, true, true, true, true, true, true, true, true, true, true, true, true, true, true, true, true, true, true, true, false, false, false, false, false] S rfl (p_add rfl rfl (nat_add (x := (r0' + q)) (y := i) (by omega))) (wanted_none rfl) rfl rfl (by kernel_rfl) (fun _ _ _ h => h) ?_; clear S a; intro a S
         refine d_pure (i := 21) #[true, true, true, true, true, true, true, true, true, true, true, true, true, true, true, true, true, true, true, true, true, true, false, false, false, false] S rfl (p_slice rfl (o_some rfl) (o_some rfl) (fun _ _ => o_none) (fun w => sl_sb (m := r0' + se) (h := r0' + q + i) Tryd.underlying32 sz5 rfl rfl (by have := hI.2.1; omega) (by omega) hbuf'.1)) (wanted_none rfl) rfl rfl (by kernel_rfl) (fun _ _ _ h => h) ?_; clear S a; intro a S
         rw [Nat.add_assoc r0' q i, seg_eq se hdr' (b := q + i) (by omega)] at S
         have hsrc := (((SB.buf (mb := [_]) hbuf' H).cut (m := r0' + se) (j := r0' + (q + i)) (by have := hI.2.1; omega) (by omega))).src (by rw [List.length_drop, List.length_take]; omega) Tryd.underlying32
         rw [seg_eq se hdr' (b := q + i) (by omega)] at hsrc
         have hcl : ((X.take (q + i)).drop se).length ≤ X.length := by rw [List.length_drop, List.length_take]; omega
         have H1 := HH.lp2 H
         refine d_ownK (i := 22) (_ :: _ :: (_ ++ _)) (r := (X.take (q + i)).drop se) #[true, true, true, true, true, true, true, true, true, true, true, true, true, true, true, true, true, true, true, true, true, true, true, false, false, false] S H1 rfl rfl rfl rfl hOw hsrc Tryd.underlying32 in5 rfl (by omega) (by decide) (wanted_none rfl) rfl rfl (by kernel_rfl) rfl ?_; clear S a H H1 hsrc; intro A2 c2 E2 G2 w a hOw2 H hKE2 S
         replace H := HH.un2 H
         refine d_pure (i := 23) #[true, true, true, true, true, true, true, true, true, true, true, true, true, true, true, true, true, true, true, true, true, true, true, true, false, false] S rfl (p_nilCheck rfl) (wanted_none rfl) rfl rfl (by kernel_rfl) (fun _ _ _ h => h) ?_; clear S a; intro a S
         refine d_pure (i := 24) #[true, true, true, true, true, true, true, true, true, true, true, true, true, true, true, true, true, true, true, true, true, true, true, true, true, false] S rfl (p_fieldAddr rfl (fun w => fa54_7 w _ _)) (wanted_none rfl) rfl rfl (by kernel_rfl) (fun _ _ _ h => h) ?_; clear S a; intro a S
         refine d_store (i := 25) #[true, true, true, true, true, true, true, true, true, true, true, true, true, true, true, true, true, true, true, true, true, true, true, true, true, true] S H rfl rfl rfl rfl .here (by first | decide | simp [Value.cells]) (fun w u hc hz => st1 sz32 rfl hc hz) (wanted_none rfl) rfl (by kernel_rfl) rfl ?_; clear S a H; intro w a H S
         refine d_done (by kernel_rfl) ?_
         refine e_then ?_
         refine wp_seq ?_
         refine c_region ?_
         refine l_pure S (p_move rfl) rfl rfl rfl ?_; clear S a; intro a S
         refine l_pure S (p_move rfl) rfl rfl rfl ?_; clear S a; intro a S
         refine l_pure S (p_nilCheck rfl) rfl rfl rfl ?_; clear S a; intro a S
         refine l_pure S (p_fieldAddr rfl (fun w => fa54_7 w _ _)) rfl rfl rfl ?_; clear S a; intro a S
         refine l_read S H (r_load rfl List.mem_cons_self rfl (fun w hc => ld1 ag32 hc)) rfl rfl rfl ?_; clear S a; intro a S
         refine l_pure S (p_move rfl) rfl rfl rfl ?_; clear S a; intro a S
         refine l_lit [(.tmp 141)] S H rfl rfl Tryd.underlying32 sz5 zv5 rfl rfl (by simp [Value.cells]) rfl rfl rfl ?_; clear S a H; intro g39 w a H S
         have H1 := HH.lp3 H
         refine l_ownK (_ :: _ :: _ :: (_ ++ _)) (r := [(hh b2 : Int)]) S H1 rfl rfl rfl hOw2 (src_lit (vs := [(hh b2 : Int)].map (Value.int .u8)) H List.mem_cons_self Tryd.underlying32 (by simp [Value.oneCell'])) Tryd.underlying32 in5 rfl (by rw [List.length_append]; simp only [List.length_cons, List.length_nil]; omega) (by decide) rfl rfl rfl ?_; clear S a H H1; intro A3 c3 E3 G3 w a hOw3 H hKE3 S
         replace H := (HH.un3 H).tail
         refine l_pure S (p_nilCheck rfl) rfl rfl rfl ?_; clear S a; intro a S
         refine l_pure S (p_fieldAddr rfl (fun w => fa54_7 w _ _)) rfl rfl rfl ?_; clear S a; intro a S
         refine l_store S H rfl rfl rfl .here (by first | decide | simp [Value.cells]) (fun w u hc hz => st1 sz32 rfl hc hz) rfl rfl ?_; clear S a H; intro w a H S
         have hI2 := hI.esc (by omega) (by rw [hb]; omega) hne
         rw [heb] at hI2
         have hys2 : (ys ++ (X.take (q + i)).drop se) ++ [(hh b2 : Int)] = el ++ (xs ++ ((X.take (q + i)).drop se ++ [(hh b2 : Int)])) := by rw [hys]; simp only [List.append_assoc]
         have hKE4 := ((hKE.more G1).trans hKE2).trans hKE3
         refine l_nil ?_
         refine e_then ?_
         refine d_start (id := 22) [] 13 #[false, false, false, false, false, false, false, false, false, false, false, false, false] H rfl rfl rfl (fun w H => ?_)
         refine d_pure (i := 0) #[true, false, false, false, false, false, false, false, false, false, false, false, false] S rfl (p_move rfl) (wanted_none rfl) rfl rfl (by kernel_rfl) (fun _ _ _ h => h) ?_; clear S a; intro a S
         refine d_pure (i := 1) #[true, true, false, false, false, false, false, false, false, false, false, false, false] S rfl (p_nilCheck rfl) (wanted_none rfl) rfl rfl (by kernel_rfl) (fun _ _ _ h => h) ?_; clear S a; intro a S
         refine d_pure (i := 2) #[true, true, true, false, false, false, false, false, false, false, false, false, false] S rfl (p_fieldAddr rfl (fun w => fa54_3 w _ _)) (wanted_none rfl) rfl rfl (by kernel_rfl) (fun _ _ _ h => h) ?_; clear S a; intro a S
         refine d_read (i := 3) #[true, true, true, true, false, false, false, false, false, false, false, false, false] S H rfl (r_load rfl List.mem_cons_self rfl (fun w hc => ld1 ag3 hc)) (wanted_none rfl) rfl rfl (by kernel_rfl) (fun _ _ _ h => h) ?_; clear S a; intro a S
         refine d_pure (i := 4) #[true, true, true, true, true, false, false, false, false, false, false, false, false] S rfl (p_move rfl) (wanted_none rfl) rfl rfl (by kernel_rfl) (fun _ _ _ h => h) ?_; clear S a; intro a S
         refine d_pure (i := 5) #[true, true, true, true, true, true, false, false, false, false, false, false, false] S rfl (p_nilCheck rfl) (wanted_none rfl) rfl rfl (by kernel_rfl) (fun _ _ _ h => h) ?_; clear S a; intro a S
         refine d_pure (i := 6) #[true, true, true, true, true, true, true, false, false, false, false, false, false] S rfl (p_fieldAddr rfl (fun w => fa54_2 w _ _)) (wanted_none rfl) rfl rfl (by kernel_rfl) (fun _ _ _ h => h) ?_; clear S a; intro a S
         refine d_read (i := 7) #[true, true, true, true, true, true, true, true, false, false, false, false, false] S H rfl (r_load rfl List.mem_cons_self rfl (fun w hc => ld1 ag3 hc)) (wanted_none rfl) rfl rfl (by kernel_rfl) (fun _ _ _ h => h) ?_; clear S a; intro a S
         refine d_pure (i := 8) #[true, true, true, true, true, true, true, true, true, false, false, false, false] S rfl (p_sub (r := (q : Int)) rfl rfl ((IntWalk.i64_in _ (by omega)).trans (by omega))) (wanted_none rfl) rfl rfl (by kernel_rfl) (fun _ _ _ h => h) ?_; clear S a; intro a S
         refine d_pure (i := 9) #[true, true, true, true, true, true, true, true, true, true, false, false, false] S rfl (p_move rfl) (wanted_none rfl) rfl rfl (by kernel_rfl) (fun _ _ _ h => h) ?_; clear S a; intro a S
         refine d_pure (i := 10) #[true, true, true, true, true, true, true, true, true, true, true, false, false] S rfl (p_add rfl rfl (nat_add (x := q) (y := i) (by omega))) (wanted_none rfl) rfl rfl (by kernel_rfl) (fun _ _ _ h => h) ?_; clear S a; intro a S
         refine d_pure (i := 11) #[true, true, true, true, true, true, true, true, true, true, true, true, false] S rfl (p_add rfl rfl (nat_add (x := (q + i)) (y := 2) (by omega))) (wanted_none rfl) rfl rfl (by kernel_rfl) (fun _ _ _ h => h) ?_; clear S a; intro a S
         refine d_pure (i := 12) #[true, true, true, true, true, true, true, true, true, true, true, true, true] S rfl (p_assign rfl) (wanted_none rfl) rfl rfl (by kernel_rfl) (fun _ _ _ h => h) ?_; clear S a; intro a S
         refine d_done (by kernel_rfl) ?_
         refine e_then ?_
         refine c_region ?_
         refine l_pure S (p_move rfl) rfl rfl rfl ?_; clear S a; intro a S
         refine l_pure S (p_add rfl rfl (nat_add (x := i) (y := 1) (by omega))) rfl rfl rfl ?_; clear S a; intro a S
         refine l_pure S (p_assign rfl) rfl rfl rfl ?_; clear S a; intro a S
         refine l_nil ?_
         refine e_in 3 ?_
         refine e_then ?_
         refine c_region ?_
         refine l_pure S (p_move rfl) rfl rfl rfl ?_; clear S a; intro a S
         refine l_pure S (p_add rfl rfl (nat_add (x := (i + 1)) (y := 1) (by omega))) rfl rfl rfl ?_; clear S a; intro a S
         refine l_pure S (p_assign rfl) rfl rfl rfl ?_; clear S a; intro a S
         refine l_nil ?_
         refine e_then ?_
         exact ⟨⟨((i + 1) + 1), ((q + i) + 2), v1, cm1, M1, rd', some ⟨gb', 0, none⟩, l', c', r0', [(gb', .cells cs' 5 fb')], mr', (G3 ++ (G2 ++ (G1 ++ G))), E3, A3, c3, ((ys ++ (X.take (q + i)).drop se) ++ [(hh b2 : Int)]), (xs ++ ((X.take (q + i)).drop se ++ [(hh b2 : Int)]))⟩, ⟨S.only ⟨rfl, rfl, rfl, rfl, rfl, rfl, rfl, rfl, trivial⟩, H, ⟨⟨hbuf', hrd', hr0', hvX', hdr', hsz', hpX'⟩, hOw3, (Keeps_more (Keeps_more (hK.trans hK1) G2) G3).then_head rfl, hKE4, hys2, hI2, ⟨by omega, by omega⟩⟩⟩, (show X.length - (q + ((i + 1) + 1)) < X.length - (q + i) from by omega)⟩
        ·
         have c38 := bc38
         replace c38 := not_eq_false_ c38
         
         obtain rfl : sk = true := by simpa using c38
         refine wp_skip ?_
         refine e_then ?_
         refine c_region ?_
         refine l_pure S (p_move rfl) rfl rfl rfl ?_; clear S a; intro a S
         refine l_pure S (p_add rfl rfl (nat_add (x := i) (y := 1) (by omega))) rfl rfl rfl ?_; clear S a; intro a S
         refine l_pure S (p_assign rfl) rfl rfl rfl ?_; clear S a; intro a S
         refine l_nil ?_
         refine e_in 3 ?_
         refine e_then ?_
         refine c_region ?_
         refine l_pure S (p_move rfl) rfl rfl rfl ?_; clear S a; intro a S
         refine l_pure S (p_add rfl rfl (nat_add (x := (i + 1)) (y := 1) (by omega))) rfl rfl rfl ?_; clear S a; intro a S
         refine l_pure S (p_assign rfl) rfl rfl rfl ?_; clear S a; intro a S
         refine l_nil ?_
         refine e_then ?_
         exact ⟨⟨((i + 1) + 1), se, v1, cm1, M1, rd', some ⟨gb', 0, none⟩, l', c', r0', [(gb', .cells cs' 5 fb')], mr', (G1 ++ G), E, Ae, ce, ys, xs⟩, ⟨S.only ⟨rfl, rfl, rfl, rfl, rfl, rfl, rfl, rfl, trivial⟩, H, ⟨⟨hbuf', hrd', hr0', hvX', hdr', hsz', hpX'⟩, hOw, hK.trans hK1, hKE.more G1, hys, hI.escS (by omega) (by rw [hb]; omega) hne, ⟨by omega, by omega⟩⟩⟩, (show X.length - (q + ((i + 1) + 1)) < X.length - (q + i) from by omega)⟩
     ·
      have c30 := bc30
      have c30 := of_decide_eq_false c30
      refine wp_skip ?_
      refine e_then ?_
      refine wp_seq ?_
      refine d_start (id := 17) [] 10 #[false, false, false, false, false, false, false, false, false, false] H rfl rfl rfl (fun w H => ?_)
      refine d_pure (i := 0) #[true, false, false, false, false, false, false, false, false, false] S rfl (p_move rfl) (wanted_none rfl) rfl rfl (by kernel_rfl) (fun _ _ _ h => h) ?_; clear S a; intro a S
      refine d_pure (i := 1) #[true, true, false, false, false, false, false, false, false, false] S rfl (p_move rfl) (wanted_none rfl) rfl rfl (by kernel_rfl) (fun _ _ _ h => h) ?_; clear S a; intro a S
      refine d_pure (i := 2) #[true, true, true, false, false, false, false, false, false, false] S rfl (p_move rfl) (wanted_none rfl) rfl rfl (by kernel_rfl) (fun _ _ _ h => h) ?_; clear S a; intro a S
      refine d_pure (i := 3) #[true, true, true, true, false, false, false, false, false, false] S rfl (p_add rfl rfl (nat_add (x := i) (y := 1) (by omega))) (wanted_none rfl) rfl rfl (by kernel_rfl) (fun _ _ _ h => h) ?_; clear S a; intro a S
      refine d_pure (i := 4) #[true, true, true, true, true, false, false, false, false, false] S rfl (p_indexAddr (u := .slice (some ⟨gb, r0 + q, none⟩) (l.drop (r0 + q)).length (c - (r0 + q))) (by rw [← hcut]; rfl) rfl (fun w => ia_slice Tryd.underlying32 sz5 (by omega) (by omega))) (wanted_none rfl) rfl rfl (by kernel_rfl) (fun _ _ _ h => h) ?_; clear S a; intro a S
      refine d_read (i := 5) #[true, true, true, true, true, true, false, false, false, false] S H rfl (r_load rfl (List.mem_cons_of_mem _ List.mem_cons_self) (row_at hrow (i := r0 + q + (i + 1)) (by omega) (by omega)) (fun w hc => ld1 ag5 hc)) (wanted_none rfl) rfl rfl (by kernel_rfl) (fun _ _ _ h => h) ?_; clear S a; intro a S
      obtain ⟨b2, hb2, hb2l⟩ := byte_nat hXb (i := q + (i + 1)) (by omega)
      rw [dc.at_vis hdr hr0 (show q + (i + 1) < v by omega) hvX, hb2] at S
      refine d_pure (i := 6) #[true, true, true, true, true, true, true, false, false, false] S rfl (p_nilCheck rfl) (wanted_none rfl) rfl rfl (by kernel_rfl) (fun _ _ _ h => h) ?_; clear S a; intro a S
      refine d_pure (i := 7) #[true, true, true, true, true, true, true, true, false, false] S rfl (p_indexAddr rfl rfl (fun w => ia_array Tryd.underlying63 sz5 (by omega) (by omega))) (wanted_none rfl) rfl rfl (by kernel_rfl) (fun _ _ _ h => h) ?_; clear S a; intro a S
      refine d_read (i := 8) #[true, true, true, true, true, true, true, true, true, false] S H rfl (r_load (v := .int .u8 (hh b2 : Int)) rfl (List.mem_cons_of_mem _ (List.mem_cons_of_mem _ (List.mem_append_right _ (List.mem_append_right _ (List.mem_append_right _ hge))))) (by rw [show 256 + ((b2 : Nat) : Int).toNat * 1 = 256 + b2 by omega]; exact hec b2 hb2l) (fun w hc => ld1 ag5 hc)) (wanted_none rfl) rfl rfl (by kernel_rfl) (fun _ _ _ h => h) ?_; clear S a; intro a S
      refine d_pure (i := 9) #[true, true, true, true, true, true, true, true, true, true] S rfl (p_assign rfl) (wanted_none rfl) rfl rfl (by kernel_rfl) (fun _ _ _ h => h) ?_; clear S a; intro a S
      refine d_done (by kernel_rfl) ?_
      refine e_then ?_
      refine wp_seq ?_
      refine wp_seq ?_
      refine c_region ?_
      refine l_pure S (p_move rfl) rfl rfl rfl ?_; clear S a; intro a S
      refine l_pure S (p_eql rfl rfl) rfl rfl rfl ?_; clear S a; intro a S
      refine l_nil ?_
      refine e_then ?_
      refine c_cond S rfl (fun bc41 => ?_) (fun bc41 => ?_)
      ·
       have c41 := bc41
       have c41 := eq_of_beq c41
       refine wp_exit ?_
       refine e_then_exit ?_
       refine e_in_exit ?_
       refine e_then ?_
       refine c_region ?_
       refine l_pure S (p_move rfl) rfl rfl rfl ?_; clear S a; intro a S
       refine l_pure S (p_add rfl rfl (nat_add (x := i) (y := 1) (by omega))) rfl rfl rfl ?_; clear S a; intro a S
       refine l_pure S (p_assign rfl) rfl rfl rfl ?_; clear S a; intro a S
       refine l_nil ?_
       refine e_then ?_
       exact ⟨⟨(i + 1), se, v, cm, M, rd, some ⟨gb, 0, none⟩, l, c, r0, [(gb, .cells cs 5 fb)], mr, G, E, Ae, ce, ys, xs⟩, ⟨S.only ⟨rfl, rfl, rfl, rfl, rfl, rfl, rfl, rfl, trivial⟩, H, ⟨hO, hOw, hK, hKE, hys, hI.bs (by omega) (by rw [hb]; omega) (by rw [Nat.add_assoc, hb2, Int.toNat_natCast]; omega), ⟨by omega, by omega⟩⟩⟩, (show X.length - (q + (i + 1)) < X.length - (q + i) from by omega)⟩
      ·
       have c41 := bc41
       have c41 := ne_of_beq_false c41
       have hne : hh (X.getD (q + i + 1) 0).toNat ≠ 0 := by rw [Nat.add_assoc, hb2, Int.toNat_natCast]; omega
       have heb : hh (X.getD (q + i + 1) 0).toNat = hh b2 := by rw [Nat.add_assoc, hb2, Int.toNat_natCast]
       refine wp_skip ?_
       refine e_then ?_
       refine wp_seq ?_
       refine wp_seq ?_
       refine c_region ?_
       refine l_pure S (p_move rfl) rfl rfl rfl ?_; clear S a; intro a S
       refine l_pure S (p_nilCheck rfl) rfl rfl rfl ?_; clear S a; intro a S
       refine l_pure S (p_fieldAddr rfl (fun w => fa54_6 w _ _)) rfl rfl rfl ?_; clear S a; intro a S
       refine l_read S H (r_load rfl List.mem_cons_self rfl (fun w hc => ld1 ag4 hc)) rfl rfl rfl ?_; clear S a; intro a S
       refine l_pure S (p_not rfl) rfl rfl rfl ?_; clear S a; intro a S
       refine l_nil ?_
       refine e_then ?_
       refine c_cond S rfl (fun bc44 => ?_) (fun bc44 => ?_)
       ·
        have c44 := bc44
        replace c44 := not_eq_true_ c44
        
        obtain rfl : sk = false := by simpa using c44
        refine wp_seq ?_
        refine d_start (id := 20) [22, 25] 26 #[false, false, false, false, false, false, false, false, false, false, false, false, false, false, false, false, false, false, false, false, false, false, false, false, false, false] H rfl rfl rfl (fun w H => ?_)
        refine d_pure (i := 0) #[true, false, false, false, false, false, false, false, false, false, false, false, false, false, false, false, false, false, false, false, false, false, false, false, false, false] S rfl (p_move rfl) (wanted_none rfl) rfl rfl (by kernel_rfl) (fun _ _ _ h => h) ?_; clear S a; intro a S
        refine d_pure (i := 1) #[true, true, false, false, false, false, false, false, false, false, false, false, false, false, false, false, false, false, false, false, false, false, false, false, false, false] S rfl (p_move rfl) (wanted_none rfl) rfl rfl (by kernel_rfl) (fun _ _ _ h => h) ?_; clear S a; intro a S
        refine d_pure (i := 2) #[true, true, true, false, false, false, false, false, false, false, false, false, false, false, false, false, false, false, false, false, false, false, false, false, false, false] S rfl (p_nilCheck rfl) (wanted_none rfl) rfl rfl (by kernel_rfl) (fun _ _ _ h => h) ?_; clear S a; intro a S
        refine d_pure (i := 3) #[true, true, true, true, false, false, false, false, false, false, false, false, false, false, false, false, false, false, false, false, false, false, false, false, false, false] S rfl (p_fieldAddr rfl (fun w => fa54_7 w _ _)) (wanted_none rfl) rfl rfl (by kernel_rfl) (fun _ _ _ h => h) ?_; clear S a; intro a S
        refine d_read (i := 4) #[true, true, true, true, true, false, false, false, false, false, false, false, false, false, false, false, false, false, false, false, false, false, false, false, false, false] S H rfl (r_load rfl List.mem_cons_self rfl (fun w hc => ld1 ag32 hc)) (wanted_none rfl) rfl rfl (by kernel_rfl) (fun _ _ _ h => h) ?_; clear S a; intro a S
        refine d_pure (i := 5) #[true, true, true, true, true, true, false, false, false, false, false, false, false, false, false, false, false, false, false, false, false, false, false, false, false, false] S rfl (p_move rfl) (wanted_none rfl) rfl rfl (by kernel_rfl) (fun _ _ _ h => h) ?_; clear S a; intro a S
        refine d_pure (i := 6) #[true, true, true, true, true, true, true, false, false, false, false, false, false, false, false, false, false, false, false, false, false, false, false, false, false, false] S rfl (p_nilCheck rfl) (wanted_none rfl) rfl rfl (by kernel_rfl) (fun _ _ _ h => h) ?_; clear S a; intro a S
        refine d_pure (i := 7) #[true, true, true, true, true, true, true, true, false, false, false, false, false, false, false, false, false, false, false, false, false, false, false, false, false, false] S rfl (p_fieldAddr rfl (fun w => fa54_1 w _ _)) (wanted_none rfl) rfl rfl (by kernel_rfl) (fun _ _ _ h => h) ?_; clear S a; intro a S
        refine d_read (i := 8) #[true, true, true, true, true, true, true, true, true, false, false, false, false, false, false, false, false, false, false, false, false, false, false, false, false, false] S H rfl (r_load rfl List.mem_cons_self rfl (fun w hc => ld1 ag32 hc)) (wanted_none rfl) rfl rfl (by kernel_rfl) (fun _ _ _ h => h) ?_; clear S a; intro a S
        refine d_pure (i := 9) #[true, true, true, true, true, true, true, true, true, true, false, false, false, false, false, false, false, false, false, false, false, false, false, false, false, false] S rfl (p_move rfl) (wanted_none rfl) rfl rfl (by kernel_rfl) (fun _ _ _ h => h) ?_; clear S a; intro a S
        refine d_pure (i := 10) #[true, true, true, true, true, true, true, true, true, true, true, false, false, false, false, false, false, false, false, false, false, false, false, false, false, false] S rfl (p_nilCheck rfl) (wanted_none rfl) rfl rfl (by kernel_rfl) (fun _ _ _ h => h) ?_; clear S a; intro a S
        refine d_pure (i := 11) #[true, true, true, true, true, true, true, true, true, true, true, true, false, false, false, false, false, false, false, false, false, false, false, false, false, false] S rfl (p_fieldAddr rfl (fun w => fa54_2 w _ _)) (wanted_none rfl) rfl rfl (by kernel_rfl) (fun _ _ _ h => h) ?_; clear S a; intro a S
        refine d_read (i := 12) #[true, true, true, true, true, true, true, true, true, true, true, true, true, false, false, false, false, false, false, false, false, false, false, false, false, false] S H rfl (r_load rfl List.mem_cons_self rfl (fun w hc => ld1 ag3 hc)) (wanted_none rfl) rfl rfl (by kernel_rfl) (fun _ _ _ h => h) ?_; clear S a; intro a S
        refine d_pure (i := 13) #[true, true, true, true, true, true, true, true, true, true, true, true, true, true, false, false, false, false, false, false, false, false, false, false, false, false] S rfl (p_move rfl) (wanted_none rfl) rfl rfl (by kernel_rfl) (fun _ _ _ h => h) ?_; clear S a; intro a S
        refine d_pure (i := 14) #[true, true, true, true, true, true, true, true, true, true, true, true, true, true, true, false, false, false, false, false, false, false, false, false, false, false] S rfl (p_add rfl rfl (nat_add (x := r0) (y := se) (by omega))) (wanted_none rfl) rfl rfl (by kernel_rfl) (fun _ _ _ h => h) ?_; clear S a; intro a S
        refine d_pure (i := 15) #[true, true, true, true, true, true, true, true, true, true, true, true, true, true, true, true, false, false, false, false, false, false, false, false, false, false] S rfl (p_move rfl) (wanted_none rfl) rfl rfl (by kernel_rfl) (fun _ _ _ h => h) ?_; clear S a; intro a S
        refine d_pure (i := 16) #[true, true, true, true, true, true, true, true, true, true, true, true, true, true, true, true, true, false, false, false, false, false, false, false, false, false] S rfl (p_nilCheck rfl) (wanted_none rfl) rfl rfl (by kernel_rfl) (fun _ _ _ h => h) ?_; clear S a; intro a S
        refine d_pure (i := 17) #[true, true, true, true, true, true, true, true, true, true, true, true, true, true, true, true, true, true, false, false, false, false, false, false, false, false] S rfl (p_fieldAddr rfl (fun w => fa54_3 w _ _)) (wanted_none rfl) rfl rfl (by kernel_rfl) (fun _ _ _ h => h) ?_; clear S a; intro a S
        refine d_read (i := 18) #[true, true, true, true, true, true, true, true, true, true, true, true, true, true, true, true, true, true, true, false, false, false, false, false, false, false] S H rfl (r_load rfl List.mem_cons_self rfl (fun w hc => ld1 ag3 hc)) (wanted_none rfl) rfl rfl (by kernel_rfl) (fun _ _ _ h => h) ?_; clear S a; intro a S
        refine d_pure (i := 19) #[true, true, true, true, true, true, true, true, true, true, true, true, true, true, true, true, true, true, true, true, false, false, false, false, false, false] S rfl (p_move rfl) (wanted_none rfl) rfl rfl (by kernel_rfl) (fun _ _ _ h => h) ?_; clear S a; intro a S
        refine d_pure (i := 20) #[true, true, true, true, true, true, true, true, true, true, true, true, true, true, true, true, true, true, true, true, true, false, false, false, false, false] S rfl (p_add rfl rfl (nat_add (x := (r0 + q)) (y := i) (by omega))) (wanted_none rfl) rfl rfl (by kernel_rfl) (fun _ _ _ h => h) ?_; clear S a; intro a S
        refine d_pure (i := 21) #[true, true, true, true, true, true, true, true, true, true, true, true, true, true, true, true, true, true, true, true, true, true, false, false, false, false] S rfl (p_slice rfl (o_some rfl) (o_some rfl) (fun _ _ => o_none) (fun w => sl_sb (m := r0 + se) (h := r0 + q + i) Tryd.underlying32 sz5 rfl rfl (by have := hI.2.1; omega) (by omega) hbuf.1)) (wanted_none rfl) rfl rfl (by kernel_rfl) (fun _ _ _ h => h) ?_; clear S a; intro a S
        rw [Nat.add_assoc r0 q i, seg_eq se hdr (b := q + i) (by omega)] at S
        have hsrc := (((SB.buf (mb := [_]) hbuf H).cut (m := r0 + se) (j := r0 + (q + i)) (by have := hI.2.1; omega) (by omega))).src (by rw [List.length_drop, List.length_take]; omega) Tryd.underlying32
        rw [seg_eq se hdr (b := q + i) (by omega)] at hsrc
        have hcl : ((X.take (q + i)).drop se).length ≤ X.length := by rw [List.length_drop, List.length_take]; omega
        have H1 := HH.lp2 H
        refine d_ownK (i := 22) (_ :: _ :: (_ ++ _)) (r := (X.take (q + i)).drop se) #[true, true, true, true, true, true, true, true, true, true, true, true, true, true, true, true, true, true, true, true, true, true, true, false, false, false] S H1 rfl rfl rfl rfl hOw hsrc Tryd.underlying32 in5 rfl (by omega) (by decide) (wanted_none rfl) rfl rfl (by kernel_rfl) rfl ?_; clear S a H H1 hsrc; intro A2 c2 E2 G2 w a hOw2 H hKE2 S
        replace H := HH.un2 H
        refine d_pure (i := 23) #[true, true, true, true, true, true, true, true, true, true, true, true, true, true, true, true, true, true, true, true, true, true, true, true, false, false] S rfl (p_nilCheck rfl) (wanted_none rfl) rfl rfl (by kernel_rfl) (fun _ _ _ h => h) ?_; clear S a; intro a S
        refine d_pure (i := 24) #[true, true, true, true, true, true, true, true, true, true, true, true, true, true, true, true, true, true, true, true, true, true, true, true, true, false] S rfl (p_fieldAddr rfl (fun w => fa54_7 w _ _)) (wanted_none rfl) rfl rfl (by kernel_rfl) (fun _ _ _ h => h) ?_; clear S a; intro a S
        refine d_store (i := 25) #[true, true, true, true, true, true, true, true, true, true, true, true, true, true, true, true, true, true, true, true, true, true, true, true, true, true] S H rfl rfl rfl rfl .here (by first | decide | simp [Value.cells]) (fun w u hc hz => st1 sz32 rfl hc hz) (wanted_none rfl) rfl (by kernel_rfl) rfl ?_; clear S a H; intro w a H S
        refine d_done (by kernel_rfl) ?_
        refine e_then ?_
        refine wp_seq ?_
        refine c_region ?_
        refine l_pure S (p_move rfl) rfl rfl rfl ?_; clear S a; intro a S
        refine l_pure S (p_move rfl) rfl rfl rfl ?_; clear S a; intro a S
        refine l_pure S (p_nilCheck rfl) rfl rfl rfl ?_; clear S a; intro a S
        refine l_pure S (p_fieldAddr rfl (fun w => fa54_7 w _ _)) rfl rfl rfl ?_; clear S a; intro a S
        refine l_read S H (r_load rfl List.mem_cons_self rfl (fun w hc => ld1 ag32 hc)) rfl rfl rfl ?_; clear S a; intro a S
        refine l_pure S (p_move rfl) rfl rfl rfl ?_; clear S a; intro a S
        refine l_lit [(.tmp 141)] S H rfl rfl Tryd.underlying32 sz5 zv5 rfl rfl (by simp [Value.cells]) rfl rfl rfl ?_; clear S a H; intro g45 w a H S
        have H1 := HH.lp3 H
        refine l_ownK (_ :: _ :: _ :: (_ ++ _)) (r := [(hh b2 : Int)]) S H1 rfl rfl rfl hOw2 (src_lit (vs := [(hh b2 : Int)].map (Value.int .u8)) H List.mem_cons_self Tryd.underlying32 (by simp [Value.oneCell'])) Tryd.underlying32 in5 rfl (by rw [List.length_append]; simp only [List.length_cons, List.length_nil]; omega) (by decide) rfl rfl rfl ?_; clear S a H H1; intro A3 c3 E3 G3 w a hOw3 H hKE3 S
        replace H := (HH.un3 H).tail
        refine l_pure S (p_nilCheck rfl) rfl rfl rfl ?_; clear S a; intro a S
        refine l_pure S (p_fieldAddr rfl (fun w => fa54_7 w _ _)) rfl rfl rfl ?_; clear S a; intro a S
        refine l_store S H rfl rfl rfl .here (by first | decide | simp [Value.cells]) (fun w u hc hz => st1 sz32 rfl hc hz) rfl rfl ?_; clear S a H; intro w a H S
        have hI2 := hI.esc (by omega) (by rw [hb]; omega) hne
        rw [heb] at hI2
        have hys2 : (ys ++ (X.take (q + i)).drop se) ++ [(hh b2 : Int)] = el ++ (xs ++ ((X.take (q + i)).drop se ++ [(hh b2 : Int)])) := by rw [hys]; simp only [List.append_assoc]
        have hKE4 := (hKE.trans hKE2).trans hKE3
        refine l_nil ?_
        refine e_then ?_
        refine d_start (id := 22) [] 13 #[false, false, false, false, false, false, false, false, false, false, false, false, false] H rfl rfl rfl (fun w H => ?_)
        refine d_pure (i := 0) #[true, false, false, false, false, false, false, false, false, false, false, false, false] S rfl (p_move rfl) (wanted_none rfl) rfl rfl (by kernel_rfl) (fun _ _ _ h => h) ?_; clear S a; intro a S
        refine d_pure (i := 1) #[true, true, false, false, false, false, false, false, false, false, false, false, false] S rfl (p_nilCheck rfl) (wanted_none rfl) rfl rfl (by kernel_rfl) (fun _ _ _ h => h) ?_; clear S a; intro a S
        refine d_pure (i := 2) #[true, true, true, false, false, false, false, false, false, false, false, false, false] S rfl (p_fieldAddr rfl (fun w => fa54_3 w _ _)) (wanted_none rfl) rfl rfl (by kernel_rfl) (fun _ _ _ h => h) ?_; clear S a; intro a S
        refine d_read (i := 3) #[true, true, true, true, false, false, false, false, false, false, false, false, false] S H rfl (r_load rfl List.mem_cons_self rfl (fun w hc => ld1 ag3 hc)) (wanted_none rfl) rfl rfl (by kernel_rfl) (fun _ _ _ h => h) ?_; clear S a; intro a S
        refine d_pure (i := 4) #[true, true, true, true, true, false, false, false, false, false, false, false, false] S rfl (p_move rfl) (wanted_none rfl) rfl rfl (by kernel_rfl) (fun _ _ _ h => h) ?_; clear S a; intro a S
        refine d_pure (i := 5) #[true, true, true, true, true, true, false, false, false, false, false, false, false] S rfl (p_nilCheck rfl) (wanted_none rfl) rfl rfl (by kernel_rfl) (fun _ _ _ h => h) ?_; clear S a; intro a S
        refine d_pure (i := 6) #[true, true, true, true, true, true, true, false, false, false, false, false, false] S rfl (p_fieldAddr rfl (fun w => fa54_2 w _ _)) (wanted_none rfl) rfl rfl (by kernel_rfl) (fun _ _ _ h => h) ?_; clear S a; intro a S
        refine d_read (i := 7) #[true, true, true, true, true, true, true, true, false, false, false, false, false] S H rfl (r_load rfl List.mem_cons_self rfl (fun w hc => ld1 ag3 hc)) (wanted_none rfl) rfl rfl (by kernel_rfl) (fun _ _ _ h => h) ?_; clear S a; intro a S
        refine d_pure (i := 8) #[true, true, true, true, true, true, true, true, true, false, false, false, false] S rfl (p_sub (r := (q : Int)) rfl rfl ((IntWalk.i64_in _ (by omega)).trans (by omega))) (wanted_none rfl) rfl rfl (by kernel_rfl) (fun _ _ _ h => h) ?_; clear S a; intro a S
        refine d_pure (i := 9) #[true, true, true, true, true, true, true, true, true, true, false, false, false] S rfl (p_move rfl) (wanted_none rfl) rfl rfl (by kernel_rfl) (fun _ _ _ h => h) ?_; clear S a; intro a S
        refine d_pure (i := 10) #[true, true, true, true, true, true, true, true, true, true, true, false, false] S rfl (p_add rfl rfl (nat_add (x := q) (y := i) (by omega))) (wanted_none rfl) rfl rfl (by kernel_rfl) (fun _ _ _ h => h) ?_; clear S a; intro a S
        refine d_pure (i := 11) #[true, true, true, true, true, true, true, true, true, true, true, true, false] S rfl (p_add rfl rfl (nat_add (x := (q + i)) (y := 2) (by omega))) (wanted_none rfl) rfl rfl (by kernel_rfl) (fun _ _ _ h => h) ?_; clear S a; intro a S
        refine d_pure (i := 12) #[true, true, true, true, true, true, true, true, true, true, true, true, true] S rfl (p_assign rfl) (wanted_none rfl) rfl rfl (by kernel_rfl) (fun _ _ _ h => h) ?_; clear S a; intro a S
        refine d_done (by kernel_rfl) ?_
        refine e_then ?_
        refine c_region ?_
        refine l_pure S (p_move rfl) rfl rfl rfl ?_; clear S a; intro a S
        refine l_pure S (p_add rfl rfl (nat_add (x := i) (y := 1) (by omega))) rfl rfl rfl ?_; clear S a; intro a S
        refine l_pure S (p_assign rfl) rfl rfl rfl ?_; clear S a; intro a S
        refine l_nil ?_
        refine e_in 3 ?_
        refine e_then ?_
        refine c_region ?_
        refine l_pure S (p_move rfl) rfl rfl rfl ?_; clear S a; intro a S
        refine l_pure S (p_add rfl rfl (nat_add (x := (i + 1)) (y := 1) (by omega))) rfl rfl rfl ?_; clear S a; intro a S
        refine l_pure S (p_assign rfl) rfl rfl rfl ?_; clear S a; intro a S
        refine l_nil ?_
        refine e_then ?_
        exact ⟨⟨((i + 1) + 1), ((q + i) + 2), v, cm, M, rd, some ⟨gb, 0, none⟩, l, c, r0, [(gb, .cells cs 5 fb)], mr, (G3 ++ (G2 ++ G)), E3, A3, c3, ((ys ++ (X.take (q + i)).drop se) ++ [(hh b2 : Int)]), (xs ++ ((X.take (q + i)).drop se ++ [(hh b2 : Int)]))⟩, ⟨S.only ⟨rfl, rfl, rfl, rfl, rfl, rfl, rfl, rfl, trivial⟩, H, ⟨hO, hOw3, (Keeps_more (Keeps_more hK G2) G3).then_head rfl, hKE4, hys2, hI2, ⟨by omega, by omega⟩⟩⟩, (show X.length - (q + ((i + 1) + 1)) < X.length - (q + i) from by omega)⟩
       ·
        have c44 := bc44
        replace c44 := not_eq_false_ c44
        
        obtain rfl : sk = true := by simpa using c44
        refine wp_skip ?_
        refine e_then ?_
        refine c_region ?_
        refine l_pure S (p_move rfl) rfl rfl rfl ?_; clear S a; intro a S
        refine l_pure S (p_add rfl rfl (nat_add (x := i) (y := 1) (by omega))) rfl rfl rfl ?_; clear S a; intro a S
        refine l_pure S (p_assign rfl) rfl rfl rfl ?_; clear S a; intro a S
        refine l_nil ?_
        refine e_in 3 ?_
        refine e_then ?_
        refine c_region ?_
        refine l_pure S (p_move rfl) rfl rfl rfl ?_; clear S a; intro a S
        refine l_pure S (p_add rfl rfl (nat_add (x := (i + 1)) (y := 1) (by omega))) rfl rfl rfl ?_; clear S a; intro a S
        refine l_pure S (p_assign rfl) rfl rfl rfl ?_; clear S a; intro a S
        refine l_nil ?_
        refine e_then ?_
        exact ⟨⟨((i + 1) + 1), se, v, cm, M, rd, some ⟨gb, 0, none⟩, l, c, r0, [(gb, .cells cs 5 fb)], mr, G, E, Ae, ce, ys, xs⟩, ⟨S.only ⟨rfl, rfl, rfl, rfl, rfl, rfl, rfl, rfl, trivial⟩, H, ⟨hO, hOw, hK, hKE, hys, hI.escS (by omega) (by rw [hb]; omega) hne, ⟨by omega, by omega⟩⟩⟩, (show X.length - (q + ((i + 1) + 1)) < X.length - (q + i) from by omega)⟩
   ·
    have c23 := bc23
    have c23 := of_decide_eq_false c23
    have hvq : q + i = v := by omega
    rw [hvq] at hI
    refine wp_exit ?_
    refine e_then_exit ?_
    refine e_then_exit ?_
    refine e_in_exit ?_
    refine e_then ?_
    refine c_region ?_
    refine l_pure S (p_move rfl) rfl rfl rfl ?_; clear S a; intro a S
    refine l_pure S (p_nilCheck rfl) rfl rfl rfl ?_; clear S a; intro a S
    refine l_pure S (p_fieldAddr rfl (fun w => fa54_3 w _ _)) rfl rfl rfl ?_; clear S a; intro a S
    refine l_read S H (r_load rfl List.mem_cons_self rfl (fun w hc => ld1 ag3 hc)) rfl rfl rfl ?_; clear S a; intro a S
    refine l_pure S (p_move rfl) rfl rfl rfl ?_; clear S a; intro a S
    refine l_pure S (p_len Tryd.underlying32 rfl) rfl rfl rfl ?_; clear S a; intro a S
    refine l_pure S (p_add (r := ((r0 + v : Nat) : Int)) rfl rfl ((IntWalk.i64_in _ (by omega)).trans (by omega))) rfl rfl rfl ?_; clear S a; intro a S
    refine l_pure S (p_nilCheck rfl) rfl rfl rfl ?_; clear S a; intro a S
    refine l_pure S (p_fieldAddr rfl (fun w => fa54_3 w _ _)) rfl rfl rfl ?_; clear S a; intro a S
    refine l_store S H rfl rfl rfl .here (by first | decide | simp [Value.cells]) (fun w u hc hz => st1 sz3 rfl hc hz) rfl rfl ?_; clear S a H; intro w a H S
    refine l_nil ?_
    refine e_in 1 ?_
    replace H := dc.open_.2 H
    refine e_then ?_
    exact ⟨⟨v, se, v, cm, M, _, G, E, Ae, ce, ys, xs⟩, ⟨S.only ⟨rfl, rfl, rfl, rfl, rfl, rfl, trivial⟩, H, ⟨⟨rd, A, l, c, r0, mb, mr, rfl, hO.1, hO.2.1, hO.2.2.1, hO.2.2.2.1, hO.2.2.2.2.1, hO.2.2.2.2.2.1, by omega⟩, hOw, hK.then_head rfl, hKE, hys, hI⟩⟩, (show X.length - v < X.length - q from by omega)⟩
end gu
end Go.Proofs.YtbahngfpadjbhaaDoor.dec
