/- Part of the proof that FnDecodeCRLF answers true at every text, in every world that its card's statement admits; no condition beyond those. -/
import Derived.Test.YtbahngfpadjbhaaGreatDoorR05
import Derived.Test.YtbahngfpadjbhaaGreatDoorR06
import Derived.Test.YtbahngfpadjbhaaGreatDoorR07
import Derived.Test.YtbahngfpadjbhaaGreatDoorR04
import Derived.Laws.RangeString
set_option linter.unusedVariables false
set_option linter.unusedSimpArgs false
section
namespace Go.Proofs.YtbahngfpadjbhaaGreatDoor.dec
open Go.Proofs.YtbahngfpadjbhaaGreatDoor.fx
open Go.RowKit Go.Proofs.HHW Go.Proofs.YtbahngfpadjbhaaGreatDoorW.PrintWords
namespace gu
theorem validL_ (w0 : World) (A : Option Addr) (c : Nat) (l : List Int) (hby : ∀ x ∈ l, 0 ≤ x ∧ x < 256) (hsb : SB w0 A c l) (hs : l.length ≤ 1000000000) (hT : Lib.Utf8Tabs 2 3 w0) : Calls Tryz.prog 79 #[.slice A l.length c] w0 fun e w' => e = .returned (.bool (up.V (strOfNums l) 0)) ∧ Below w0.heap.size w0 w' := by
 have e1 := ints_nums hby
 have h := gv.valid_ w0 A c (strOfNums l) (by rw [e1]; exact hsb) (by rw [← ints_len, e1]; exact hs) hT
 rw [e1] at h
 exact h
set_option maxHeartbeats 4000000 in
theorem takeEsc_ (wb w0 : World) (D0 L0 E0 : dc.Bk) (g gs ge : Nat) (X : List Int) (p0 v0 : Nat) (cm0 : Bool) (M0 : Nat) (sec : Int) (sk : Bool) (line : Nat) (er : Value) (sp : Nat → Bool) (hh : Nat → Nat) (ec : Array Value) (el : List Int) (A0 : Option Addr) (c0 : Nat) (hD0 : dc.Dec TY wb g X p0 v0 cm0 M0 sec sk (.slice A0 el.length c0) line er D0) (hOw0 : OwnB 5 (.slice A0 el.length c0) el E0) (H : HH wb.heap.size wb w0 (D0 ++ (E0 ++ L0))) (hgs : (gs, Obj.cells (vec sp).toArray 124 (0, 0)) ∈ L0) (hge : (ge, Obj.cells ec 96 (0, 0)) ∈ L0) (hec : ∀ j, j < 256 → ec[256 + j]? = some (.int .u8 (hh j : Int))) (hhb : ∀ j, hh j < 256) (hXb : ∀ x ∈ X, 0 ≤ x ∧ x < 256) (hel : el.length ≤ 100000000) (hT : Lib.Utf8Tabs 2 3 wb) (hl : line ≤ 100000000000) (hXl : X.length ≤ 900000) (ae : Addr) (hE : wb.cell? ⟨1, 0, none⟩ = some (.iface 118 (.pointer (some ae)))) (hlt : 1 < wb.heap.size) : Calls Tryz.prog 45 #[.pointer (some ⟨g, 0, none⟩), .pointer (some ⟨gs, 0, none⟩), .pointer (some ⟨ge, 256, none⟩)] w0 fun e w' => ∃ (A' : Option Addr) (c' : Nat) (err : Value) (Ae : Option Addr) (ce : Nat) (ys : List Int) (v' : Nat) (cm' : Bool) (M' : Nat) (D' E' G : dc.Bk) (sec' : Int), e = .returned (.tuple #[.slice A' (tx sp hh sk X p0).length c', .int .i64 (p0 : Int), err]) ∧ dc.Dec TY wb g X (p0 + (tk sp hh (X.drop p0)).2) v' cm' M' sec' sk (.slice Ae ys.length ce) (lnT sp X p0 (p0 + (tk sp hh (X.drop p0)).2) line) er D' ∧ OwnB 5 (.slice Ae ys.length ce) ys E' ∧ (∃ xs, ys = el ++ xs ∧ xs.length ≤ 2 * X.length) ∧ HH wb.heap.size wb w' (D' ++ (G ++ (E' ++ L0))) ∧ dc.Keeps D0 D' G ∧ KeepsE (.slice A0 el.length c0) E0 (.slice Ae ys.length ce) E' G ∧ (p0 + (tk sp hh (X.drop p0)).2) ≤ v' ∧ HeldT D' E' (.slice Ae ys.length ce) A' (tx sp hh sk X p0) ∧ (tx sp hh sk X p0).length ≤ c' ∧ FaultT (tx sp hh sk X p0) err sec sec' (lnT sp X p0 (p0 + (tk sp hh (X.drop p0)).2) line : Int) X p0 (p0 + (tk sp hh (X.drop p0)).2) 104 101 118 wb.heap.size G := by
 obtain ⟨rd, A, l, c, r0, mb, mr, hDe, hbuf, hrd, hr0, hvX, hdr, hsz, hpX⟩ := id hD0
 rw [hDe] at H
 replace H := dc.open_.1 H
 refine c_enter (args := [.pointer (some ⟨g, 0, none⟩), .pointer (some ⟨gs, 0, none⟩), .pointer (some ⟨ge, 256, none⟩)]) (k := 239) Tryz.func45 rfl rfl rfl ?_
 refine pS (pG (pM 3 rfl (pL (pT ?_))));intro a S
 refine c_scope ?_
 revert a;refine pS ?_;intro a S
 refine d_start (id := 1) [] 10 (bA 10 0) H rfl rfl rfl (fun w H => ?_)
 revert a;refine qM [0,1,4,5] rfl (qA 2 fa58_3 rfl rfl rfl rfl (qE 3 H rfl rfl rfl m0 rfl ag3 rfl (qA 6 fa58_2 rfl rfl rfl rfl (qE 7 H rfl rfl rfl m0 rfl ag3 rfl (qP 8 rfl (p_sub (r := (p0 : Int)) rfl rfl ((IntWalk.i64_in _ (by omega)).trans (by omega))) rfl (qM [9] rfl (qD (pT (pS (pG (pM 2 rfl (pL (pT (pS (pG (pM 2 rfl (pA fa58_7 rfl rfl rfl (pD H rfl rfl m0 rfl ag23 rfl (pP (p_len Tryz.underlying23 rfl) rfl (pM 1 rfl (pL (pT (pS ?_)))))))))))))))))))))));intro a S
 refine c_label ?_
 revert a;refine pT ?_
 replace H := dc.open_.2 H
 rw [← hDe] at H
 clear hbuf hrd hr0 hvX hdr hDe hsz
 intro a S
 refine c_cut (fun a w => ∃ q : Nat, ∃ se : Nat, ∃ v : Nat, ∃ cm : Bool, ∃ M : Nat, ∃ D : dc.Bk, ∃ G : dc.Bk, ∃ E : dc.Bk, ∃ Ae : Option Addr, ∃ ce : Nat, ∃ ys : List Int, ∃ xs : List Int, SL a 242 [] [(0, .pointer (some ⟨g, 0, none⟩)), (1, .pointer (some ⟨gs, 0, none⟩)), (2, .pointer (some ⟨ge, 256, none⟩)), (9, .int .i64 (p0 : Int)), (10, .int .i64 (se : Int)), (11, .int .i64 (el.length : Int))] ∧ HH (wb.heap.size) wb w (D ++ (G ++ (E ++ L0))) ∧ dc.Dec TY wb g X q v cm M sec sk (.slice Ae ys.length ce) line er D ∧ OwnB 5 (.slice Ae ys.length ce) ys E ∧ dc.Keeps D0 D G ∧ KeepsE (.slice A0 el.length c0) E0 (.slice Ae ys.length ce) E G ∧ ys = el ++ xs ∧ TkE sp hh sk X p0 q se xs ∧ q ≤ v) ?_ ?_
 ·
  clear S a H; rintro a w ⟨q, se, v, cm, M, D, G, E, Ae, ce, ys, xs, S, H, hinv⟩
  obtain ⟨hD, hOw, hK, hKE, hys, hI, hqv⟩ := hinv
  have hxl := hI.xs_le
  have hyl : ys.length = el.length + xs.length := by rw [hys, List.length_append]
  have hI1 := hI.1
  have hI2 := hI.2.1
  obtain ⟨rd, A, l, c, r0, mb, mr, hDe, hbuf, hrd, hr0, hvX, hdr, hsz, hpX⟩ := id hD
  subst hDe
  replace H := dc.open_.1 H
  have hlc := hbuf.1
  revert a;refine pS ?_;intro a S
  refine d_start (id := 25) [] 16 (bA 16 0) H rfl rfl rfl (fun w H => ?_)
  revert a;refine qM [0,1,4,5,8,10,11] rfl (qA 2 fa58_1 rfl rfl rfl rfl (qE 3 H rfl rfl rfl m0 rfl ag23 rfl (qA 6 fa58_2 rfl rfl rfl rfl (qE 7 H rfl rfl rfl m0 rfl ag3 rfl (qP 9 rfl (p_add rfl rfl (nat_add (x := r0) (y := p0) (by omega))) rfl (qA 12 fa58_3 rfl rfl rfl rfl (qE 13 H rfl rfl rfl m0 rfl ag3 rfl (qP 14 rfl (p_slice rfl (o_some rfl) (o_some rfl) (fun _ _ => o_none) (fun w => sl_sb (m := r0 + p0) (h := r0 + q) Tryz.underlying23 sz5 rfl rfl (by omega) (by omega) hbuf.1)) rfl ?_))))))));intro a S
  rw [seg_eq p0 hdr (b := q) (by omega)] at S
  revert a;refine qM [15] rfl (qD (pT (pS (pS (pG (pM 1 rfl ?_))))))
  have hcon := st.bget wb _ _ _ gs 10 sp (by omega) (List.mem_cons_of_mem _ (List.mem_append_right _ (List.mem_append_right _ (List.mem_append_right _ (List.mem_append_right _ hgs))))) H
  refine pC Tryz.func52 hcon ?_
  rintro e w ⟨rfl, hH⟩
  refine ⟨_, rfl, ?_⟩
  clear H hcon; have H := hH; clear hH
  refine pL (pT (zc rfl (fun bc2 => ?_) (fun bc2 => ?_)))
  ·
   have c2 := bc2
   have hln : lnT sp X p0 q line = line + cnt 10 ((X.take q).drop p0) := by unfold lnT; rw [if_pos c2]
   intro a S
   refine d_start (id := 27) [9] 10 (bA 10 0) H rfl rfl rfl (fun w H => ?_)
   revert a;refine qM [0,1,4] rfl (qA 2 fa58_8 rfl rfl rfl rfl (qE 3 H rfl rfl rfl m0 rfl ag2 rfl ?_))
   have hsr : SB _ _ _ ((X.take q).drop p0) := (seg_eq p0 hdr (b := q) (by omega)) ▸ (SB.buf hbuf H).cut (m := r0 + p0) (j := r0 + q) (by omega) (by omega)
   have hcon := gt.count_ _ _ _ ((X.take q).drop p0) 10 hsr (by rw [cut_len (by omega)]; omega)
   have hcl := cnt_le 10 ((X.take q).drop p0)
   rw [cut_len (by omega)] at hcl
   intro a S
   refine d_call (i := 5) (bA 10 63) S rfl rfl rfl Tryz.func78 rfl rfl (hcon) (wanted_none rfl) rfl rfl (by kernel_rfl) rfl ?_
   rintro e w ⟨rfl, hb⟩
   refine ⟨_, rfl, H.later hb, ?_⟩; replace H := H.later hb; clear hb hcon hsr;clear S a
   refine qP 6 rfl (p_add rfl rfl (nat_add (x := line) (y := ((cnt 10 ((X.take q).drop p0)))) (by omega))) rfl (qM [7] rfl (qA 8 fa58_8 rfl rfl rfl rfl ?_));intro a S
   refine d_store (i := 9) (bA 10 1023) S H rfl rfl rfl rfl .here (by first | decide | simp [Value.cells]) (fun w u hc hz => st1 sz2 rfl hc hz) (wanted_none rfl) rfl (by kernel_rfl) rfl ?_; clear S a H; intro w a H S
   revert a;refine qD (pT (pS (pS (pG (pM 2 rfl (pA fa58_7 rfl rfl rfl (pD H rfl rfl m0 rfl ag23 rfl (pP (p_len Tryz.underlying23 rfl) rfl (pM 1 rfl (pP (p_gtr rfl rfl) rfl (pL (pT (zc rfl (fun bc4 => ?_) (fun bc4 => ?_))))))))))))))
   ·
    have c4 := of_decide_eq_true bc4
    have hxs : xs ≠ [] := fun e => by rw [e, List.length_nil] at hyl; omega
    have htx := hI.esc hxs
    refine pS ?_;intro a S
    refine d_start (id := 29) [20, 23] 24 (bA 24 0) H rfl rfl rfl (fun w H => ?_)
    revert a;refine qM [0,1,2,5,6,9,10,11,15,16] rfl (qA 3 fa58_7 rfl rfl rfl rfl (qE 4 H rfl rfl rfl m0 rfl ag23 rfl (qA 7 fa58_1 rfl rfl rfl rfl (qE 8 H rfl rfl rfl m0 rfl ag23 rfl (qA 12 fa58_2 rfl rfl rfl rfl (qE 13 H rfl rfl rfl m0 rfl ag3 rfl (qP 14 rfl (p_add (r := ((r0 + se : Nat) : Int)) rfl rfl ((IntWalk.i64_in _ (by omega)).trans (by omega))) rfl (qA 17 fa58_3 rfl rfl rfl rfl (qE 18 H rfl rfl rfl m0 rfl ag3 rfl (qP 19 rfl (p_slice rfl (o_some rfl) (o_some rfl) (fun _ _ => o_none) (fun w => sl_sb (m := r0 + se) (h := r0 + q) Tryz.underlying23 sz5 rfl rfl (by omega) (by omega) hbuf.1)) rfl ?_))))))))));intro a S
    rw [seg_eq se hdr (b := q) (by omega)] at S
    have hsrc := (((SB.buf hbuf H).cut (m := r0 + se) (j := r0 + q) (by omega) (by omega))).src (by rw [List.length_drop, List.length_take]; omega) Tryz.underlying23
    rw [seg_eq se hdr (b := q) (by omega)] at hsrc
    have hcl2 : ((X.take q).drop se).length ≤ X.length := by rw [cut_len (by omega)]; omega
    have H1 := HH.lp1 H
    refine d_ownK (i := 20) (_ :: (_ ++ (_ ++ _))) (r := ((X.take q).drop se)) (bA 24 2097151) S H1 rfl rfl rfl rfl hOw hsrc Tryz.underlying23 in5 rfl (by omega) (by decide) (wanted_none rfl) rfl rfl (by kernel_rfl) rfl ?_; clear S a H H1 hsrc; intro A2 c2 E2 G2 w a hOw2 H hKE2 S
    replace H := HH.un1 H
    revert a;refine qM [21] rfl (qA 22 fa58_7 rfl rfl rfl rfl ?_);intro a S
    refine d_store (i := 23) (bA 24 16777215) S H rfl rfl rfl rfl .here (by first | decide | simp [Value.cells]) (fun w u hc hz => st1 sz23 rfl hc hz) (wanted_none rfl) rfl (by kernel_rfl) rfl ?_; clear S a H; intro w a H S
    revert a;refine qD (pT (pG (pM 2 rfl (pA fa58_7 rfl rfl rfl (pD H rfl rfl m0 rfl ag23 rfl (pM 1 rfl ?_))))))
    have hys2 : ys ++ ((X.take q).drop se) = el ++ (xs ++ ((X.take q).drop se)) := by rw [hys, List.append_assoc]
    have hyl2 : (ys ++ ((X.take q).drop se)).length = el.length + (xs ++ ((X.take q).drop se)).length := by rw [hys2, List.length_append]
    refine pP (p_slice rfl (o_some rfl) (fun _ _ => o_none) (fun _ _ => o_none) (fun w => sl_sb_lo (m := el.length) Tryz.underlying23 sz5 rfl (by omega))) rfl ?_
    have hdp : (ys ++ ((X.take q).drop se)).drop el.length = xs ++ ((X.take q).drop se) := by rw [hys2, List.drop_left]
    intro a S
    rw [hdp] at S
    have hsb : SB _ _ _ (xs ++ ((X.take q).drop se)) := hdp ▸ (SB.own hOw2 (HH.sub H (by
     refine List.Sublist.trans ?_ (List.sublist_cons_self _ _)
     refine List.Sublist.trans ?_ (List.sublist_append_right _ _)
     refine List.Sublist.trans ?_ (List.sublist_append_right _ _)
     exact List.sublist_append_right _ _))).drop (m := el.length) (by omega)
    have hsbc := hsb.1
    have hheld := held_esc (D := ([] : dc.Bk)) hOw2 hys2
    have hby : ∀ x ∈ xs ++ ((X.take q).drop se), 0 ≤ x ∧ x < 256 := htx ▸ tx_by hXb hhb
    have hctl : (xs ++ ((X.take q).drop se)).length ≤ 2 * X.length := by rw [List.length_append]; omega
    revert a;refine pM 1 rfl (pL (pT (pS (pS (pG (pM 1 rfl ?_))))))
    have hcon := validL_ _ _ _ (xs ++ (X.take q).drop se) hby hsb (by omega) (tabs_of hT H rfl)
    refine pC Tryz.func79 hcon ?_
    rintro e w ⟨rfl, hb⟩
    refine ⟨_, rfl, ?_⟩
    replace H := H.later hb; clear hcon hb hsb
    refine pP (p_not rfl) rfl (pL (pT (zc rfl (fun bc7 => ?_) (fun bc7 => ?_))))
    ·
     have c7 := not_eq_true_ bc7
     refine pS (pG (pM 4 rfl ?_))
     have hcon := gt.errNew_ wb _ _ _ ⟨#[105, 110, 118, 97, 108, 105, 100, 32, 117, 116, 102, 45, 56, 32, 115, 101, 113, 117, 101, 110, 99, 101, 32, 105, 110, 32, 116, 111, 107, 101, 110, 32, 46, 46]⟩ H
     refine pC Tryz.func49 hcon ?_
     rintro e w ⟨gn, rfl, hH⟩
     refine ⟨_, rfl, ?_⟩
     clear H hcon; have H := hH; clear hH
     have hDq : dc.Dec TY wb g X q v cm M sec sk (.slice A2 (ys ++ ((X.take q).drop se)).length c2) (line + cnt 10 ((X.take q).drop p0)) er ((g, .cells #[rd, .slice A l.length c, .int .i64 (r0 : Int), .int .i64 ((r0 + q : Nat) : Int), .bool cm, .int .u8 sec, .bool sk, .slice A2 (ys ++ ((X.take q).drop se)).length c2, .int .i64 ((line + cnt 10 ((X.take q).drop p0) : Nat) : Int), er] 58 (0, 0)) :: (mb ++ mr)) := ⟨rd, A, l, c, r0, mb, mr, rfl, hbuf, hrd, hr0, hvX, hdr, hsz, hpX⟩
     have H1 := HH.errIn H
     have hcon := gt.synErr_ wb _ _ _ g X q v cm M sec sk _ _ er hDq H1 p0 (by omega) hqv (by omega) 118 (.pointer (some ⟨gn, 0, none⟩))
     refine pC Tryz.func48 hcon ?_
     rintro e w ⟨gf, D2, rfl, hD2, hH, hK2⟩
     refine ⟨_, rfl, ?_⟩
     clear H hcon H1; have H := hH; clear hH
     refine pM 3 rfl (pL (pT (pZ (pU ?_))));intro a S
     refine e_sc_ret ?_
     have hn := hI.n
     rw [hn, hln, htx]
     have H2 : HH wb.heap.size wb _ (D2 ++ (((gf, _) :: (gn, _) :: (G2 ++ G)) ++ (E2 ++ L0))) := H.perm (List.perm_middle (l₁ := D2) (a := (gf, _)) (l₂ := (gn, _) :: ((G2 ++ G) ++ (E2 ++ L0)))).symm
     have hctc : (xs ++ (X.take q).drop se).length ≤ _ := hsbc
     exact r_ret3 S rfl rfl rfl rfl ⟨_, _, _, A2, c2, (ys ++ ((X.take q).drop se)), v, cm, M, D2, E2, (gf, _) :: (gn, _) :: (G2 ++ G), _, rfl, hD2, hOw2, ⟨(xs ++ ((X.take q).drop se)), hys2, by rw [List.length_append]; omega⟩, H2, Keeps_two (Keeps_head (Keeps_more hK G2) hK2 rfl), KeepsE_two (hKE.trans hKE2), hqv, (held_esc hOw2 hys2), hctc, .inr ⟨c7, rfl, gf, gn, rfl, H2.lo _ (List.mem_append_right _ (List.mem_append_left _ m1)), m0, _, _, List.mem_cons_of_mem _ m0⟩⟩
    have c7 := not_eq_false_ bc7
    refine pK (pT (pS (pG (pM 5 rfl (pL (pT (pZ ?_)))))));intro a S
    refine e_sc_ret ?_
    have hn := hI.n
    rw [hn, hln, htx]
    have hctc : (xs ++ (X.take q).drop se).length ≤ _ := hsbc
    exact r_ret3 S rfl rfl rfl rfl ⟨_, _, _, A2, c2, (ys ++ ((X.take q).drop se)), v, cm, M, _, E2, (G2 ++ G), sec, rfl, ⟨rd, A, l, c, r0, mb, mr, rfl, hbuf, hrd, hr0, hvX, hdr, hsz, hpX⟩, hOw2, ⟨(xs ++ ((X.take q).drop se)), hys2, by rw [List.length_append]; omega⟩, dc.open_.2 H, (Keeps_more hK G2).then_head rfl, (hKE.trans hKE2), hqv, (held_esc hOw2 hys2), hctc, .inl ⟨c7, rfl, rfl⟩⟩
   have c4 := of_decide_eq_false bc4
   have hxs : xs = [] := List.length_eq_zero_iff.1 (by omega)
   have htx := hI.raw hxs
   have hsb : SB _ _ _ ((X.take q).drop p0) := (seg_eq p0 hdr (b := q) (by omega)) ▸ (SB.buf hbuf H).cut (m := r0 + p0) (j := r0 + q) (by omega) (by omega)
   have hsbc := hsb.1
   have hheld := fun (c0 c2 c3 c4 c5 c6 c7 c8 c9 : Value) => held_raw (g := g) (c0 := c0) (c2 := c2) (c3 := c3) (c4 := c4) (c5 := c5) (c6 := c6) (c7 := c7) (c8 := c8) (c9 := c9) (mr := mr) (E := E) (td := TY.td) (eb := .slice Ae ys.length ce) (p0 := p0) hbuf hr0 hdr hvX hqv
   have hby := cut_by hXb q p0
   have hctl : ((X.take q).drop p0).length ≤ X.length := by rw [cut_len (by omega)]; omega
   refine pK (pT (pS (pS (pG (pM 1 rfl ?_)))))
   have hcon := validL_ _ _ _ ((X.take q).drop p0) hby hsb (by omega) (tabs_of hT H rfl)
   refine pC Tryz.func79 hcon ?_
   rintro e w ⟨rfl, hb⟩
   refine ⟨_, rfl, ?_⟩
   replace H := H.later hb; clear hcon hb hsb
   refine pP (p_not rfl) rfl (pL (pT (zc rfl (fun bc10 => ?_) (fun bc10 => ?_))))
   ·
    have c10 := not_eq_true_ bc10
    refine pS (pG (pM 4 rfl ?_))
    have hcon := gt.errNew_ wb _ _ _ ⟨#[105, 110, 118, 97, 108, 105, 100, 32, 117, 116, 102, 45, 56, 32, 115, 101, 113, 117, 101, 110, 99, 101, 32, 105, 110, 32, 116, 111, 107, 101, 110, 32, 46, 46]⟩ H
    refine pC Tryz.func49 hcon ?_
    rintro e w ⟨gn, rfl, hH⟩
    refine ⟨_, rfl, ?_⟩
    clear H hcon; have H := hH; clear hH
    have hDq : dc.Dec TY wb g X q v cm M sec sk (.slice Ae ys.length ce) (line + cnt 10 ((X.take q).drop p0)) er ((g, .cells #[rd, .slice A l.length c, .int .i64 (r0 : Int), .int .i64 ((r0 + q : Nat) : Int), .bool cm, .int .u8 sec, .bool sk, .slice Ae ys.length ce, .int .i64 ((line + cnt 10 ((X.take q).drop p0) : Nat) : Int), er] 58 (0, 0)) :: (mb ++ mr)) := ⟨rd, A, l, c, r0, mb, mr, rfl, hbuf, hrd, hr0, hvX, hdr, hsz, hpX⟩
    have H1 := HH.errIn H
    have hcon := gt.synErr_ wb _ _ _ g X q v cm M sec sk _ _ er hDq H1 p0 (by omega) hqv (by omega) 118 (.pointer (some ⟨gn, 0, none⟩))
    refine pC Tryz.func48 hcon ?_
    rintro e w ⟨gf, D2, rfl, hD2, hH, hK2⟩
    refine ⟨_, rfl, ?_⟩
    clear H hcon H1; have H := hH; clear hH
    refine pM 3 rfl (pL (pT (pZ (pU ?_))));intro a S
    refine e_sc_ret ?_
    have hn := hI.n
    rw [hn, hln, htx]
    have H2 : HH wb.heap.size wb _ (D2 ++ (((gf, _) :: (gn, _) :: G) ++ (E ++ L0))) := H.perm (List.perm_middle (l₁ := D2) (a := (gf, _)) (l₂ := (gn, _) :: (G ++ (E ++ L0)))).symm
    have hctc : ((X.take q).drop p0).length ≤ _ := hsbc
    exact r_ret3 S rfl rfl rfl rfl ⟨_, _, _, Ae, ce, ys, v, cm, M, D2, E, (gf, _) :: (gn, _) :: G, _, rfl, hD2, hOw, ⟨xs, hys, by omega⟩, H2, Keeps_two (Keeps_head hK hK2 rfl), KeepsE_two hKE, hqv, (HeldT.keeps (hheld _ _ _ _ _ _ _ _ _) hK2), hctc, .inr ⟨c10, rfl, gf, gn, rfl, H2.lo _ (List.mem_append_right _ (List.mem_append_left _ m1)), m0, _, _, List.mem_cons_of_mem _ m0⟩⟩
   have c10 := not_eq_false_ bc10
   refine pK (pT (pS (pG (pM 5 rfl (pL (pT (pZ ?_)))))));intro a S
   refine e_sc_ret ?_
   have hn := hI.n
   rw [hn, hln, htx]
   have hctc : ((X.take q).drop p0).length ≤ _ := hsbc
   exact r_ret3 S rfl rfl rfl rfl ⟨_, _, _, Ae, ce, ys, v, cm, M, _, E, G, sec, rfl, ⟨rd, A, l, c, r0, mb, mr, rfl, hbuf, hrd, hr0, hvX, hdr, hsz, hpX⟩, hOw, ⟨xs, hys, by omega⟩, dc.open_.2 H, hK.then_head rfl, hKE, hqv, (hheld _ _ _ _ _ _ _ _ _), hctc, .inl ⟨c10, rfl, rfl⟩⟩
  have c2 := bc2
  have hln : lnT sp X p0 q line = line := by unfold lnT; rw [if_neg (by rw [c2]; decide)]; rfl
  refine pK (pT (pS (pS (pG (pM 2 rfl (pA fa58_7 rfl rfl rfl (pD H rfl rfl m0 rfl ag23 rfl (pP (p_len Tryz.underlying23 rfl) rfl (pM 1 rfl (pP (p_gtr rfl rfl) rfl (pL (pT (zc rfl (fun bc12 => ?_) (fun bc12 => ?_))))))))))))))
  ·
   have c12 := of_decide_eq_true bc12
   have hxs : xs ≠ [] := fun e => by rw [e, List.length_nil] at hyl; omega
   have htx := hI.esc hxs
   refine pS ?_;intro a S
   refine d_start (id := 29) [20, 23] 24 (bA 24 0) H rfl rfl rfl (fun w H => ?_)
   revert a;refine qM [0,1,2,5,6,9,10,11,15,16] rfl (qA 3 fa58_7 rfl rfl rfl rfl (qE 4 H rfl rfl rfl m0 rfl ag23 rfl (qA 7 fa58_1 rfl rfl rfl rfl (qE 8 H rfl rfl rfl m0 rfl ag23 rfl (qA 12 fa58_2 rfl rfl rfl rfl (qE 13 H rfl rfl rfl m0 rfl ag3 rfl (qP 14 rfl (p_add (r := ((r0 + se : Nat) : Int)) rfl rfl ((IntWalk.i64_in _ (by omega)).trans (by omega))) rfl (qA 17 fa58_3 rfl rfl rfl rfl (qE 18 H rfl rfl rfl m0 rfl ag3 rfl (qP 19 rfl (p_slice rfl (o_some rfl) (o_some rfl) (fun _ _ => o_none) (fun w => sl_sb (m := r0 + se) (h := r0 + q) Tryz.underlying23 sz5 rfl rfl (by omega) (by omega) hbuf.1)) rfl ?_))))))))));intro a S
   rw [seg_eq se hdr (b := q) (by omega)] at S
   have hsrc := (((SB.buf hbuf H).cut (m := r0 + se) (j := r0 + q) (by omega) (by omega))).src (by rw [List.length_drop, List.length_take]; omega) Tryz.underlying23
   rw [seg_eq se hdr (b := q) (by omega)] at hsrc
   have hcl2 : ((X.take q).drop se).length ≤ X.length := by rw [cut_len (by omega)]; omega
   have H1 := HH.lp1 H
   refine d_ownK (i := 20) (_ :: (_ ++ (_ ++ _))) (r := ((X.take q).drop se)) (bA 24 2097151) S H1 rfl rfl rfl rfl hOw hsrc Tryz.underlying23 in5 rfl (by omega) (by decide) (wanted_none rfl) rfl rfl (by kernel_rfl) rfl ?_; clear S a H H1 hsrc; intro A2 c2 E2 G2 w a hOw2 H hKE2 S
   replace H := HH.un1 H
   revert a;refine qM [21] rfl (qA 22 fa58_7 rfl rfl rfl rfl ?_);intro a S
   refine d_store (i := 23) (bA 24 16777215) S H rfl rfl rfl rfl .here (by first | decide | simp [Value.cells]) (fun w u hc hz => st1 sz23 rfl hc hz) (wanted_none rfl) rfl (by kernel_rfl) rfl ?_; clear S a H; intro w a H S
   revert a;refine qD (pT (pG (pM 2 rfl (pA fa58_7 rfl rfl rfl (pD H rfl rfl m0 rfl ag23 rfl (pM 1 rfl ?_))))))
   have hys2 : ys ++ ((X.take q).drop se) = el ++ (xs ++ ((X.take q).drop se)) := by rw [hys, List.append_assoc]
   have hyl2 : (ys ++ ((X.take q).drop se)).length = el.length + (xs ++ ((X.take q).drop se)).length := by rw [hys2, List.length_append]
   refine pP (p_slice rfl (o_some rfl) (fun _ _ => o_none) (fun _ _ => o_none) (fun w => sl_sb_lo (m := el.length) Tryz.underlying23 sz5 rfl (by omega))) rfl ?_
   have hdp : (ys ++ ((X.take q).drop se)).drop el.length = xs ++ ((X.take q).drop se) := by rw [hys2, List.drop_left]
   intro a S
   rw [hdp] at S
   have hsb : SB _ _ _ (xs ++ ((X.take q).drop se)) := hdp ▸ (SB.own hOw2 (HH.sub H (by
    refine List.Sublist.trans ?_ (List.sublist_cons_self _ _)
    refine List.Sublist.trans ?_ (List.sublist_append_right _ _)
    refine List.Sublist.trans ?_ (List.sublist_append_right _ _)
    exact List.sublist_append_right _ _))).drop (m := el.length) (by omega)
   have hsbc := hsb.1
   have hheld := held_esc (D := ([] : dc.Bk)) hOw2 hys2
   have hby : ∀ x ∈ xs ++ ((X.take q).drop se), 0 ≤ x ∧ x < 256 := htx ▸ tx_by hXb hhb
   have hctl : (xs ++ ((X.take q).drop se)).length ≤ 2 * X.length := by rw [List.length_append]; omega
   revert a;refine pM 1 rfl (pL (pT (pS (pS (pG (pM 1 rfl ?_))))))
   have hcon := validL_ _ _ _ (xs ++ (X.take q).drop se) hby hsb (by omega) (tabs_of hT H rfl)
   refine pC Tryz.func79 hcon ?_
   rintro e w ⟨rfl, hb⟩
   refine ⟨_, rfl, ?_⟩
   replace H := H.later hb; clear hcon hb hsb
   refine pP (p_not rfl) rfl (pL (pT (zc rfl (fun bc15 => ?_) (fun bc15 => ?_))))
   ·
    have c15 := not_eq_true_ bc15
    refine pS (pG (pM 4 rfl ?_))
    have hcon := gt.errNew_ wb _ _ _ ⟨#[105, 110, 118, 97, 108, 105, 100, 32, 117, 116, 102, 45, 56, 32, 115, 101, 113, 117, 101, 110, 99, 101, 32, 105, 110, 32, 116, 111, 107, 101, 110, 32, 46, 46]⟩ H
    refine pC Tryz.func49 hcon ?_
    rintro e w ⟨gn, rfl, hH⟩
    refine ⟨_, rfl, ?_⟩
    clear H hcon; have H := hH; clear hH
    have hDq : dc.Dec TY wb g X q v cm M sec sk (.slice A2 (ys ++ ((X.take q).drop se)).length c2) (line) er ((g, .cells #[rd, .slice A l.length c, .int .i64 (r0 : Int), .int .i64 ((r0 + q : Nat) : Int), .bool cm, .int .u8 sec, .bool sk, .slice A2 (ys ++ ((X.take q).drop se)).length c2, .int .i64 ((line : Nat) : Int), er] 58 (0, 0)) :: (mb ++ mr)) := ⟨rd, A, l, c, r0, mb, mr, rfl, hbuf, hrd, hr0, hvX, hdr, hsz, hpX⟩
    have H1 := HH.errIn H
    have hcon := gt.synErr_ wb _ _ _ g X q v cm M sec sk _ _ er hDq H1 p0 (by omega) hqv (by omega) 118 (.pointer (some ⟨gn, 0, none⟩))
    refine pC Tryz.func48 hcon ?_
    rintro e w ⟨gf, D2, rfl, hD2, hH, hK2⟩
    refine ⟨_, rfl, ?_⟩
    clear H hcon H1; have H := hH; clear hH
    refine pM 3 rfl (pL (pT (pZ (pU ?_))));intro a S
    refine e_sc_ret ?_
    have hn := hI.n
    rw [hn, hln, htx]
    have H2 : HH wb.heap.size wb _ (D2 ++ (((gf, _) :: (gn, _) :: (G2 ++ G)) ++ (E2 ++ L0))) := H.perm (List.perm_middle (l₁ := D2) (a := (gf, _)) (l₂ := (gn, _) :: ((G2 ++ G) ++ (E2 ++ L0)))).symm
    have hctc : (xs ++ (X.take q).drop se).length ≤ _ := hsbc
    exact r_ret3 S rfl rfl rfl rfl ⟨_, _, _, A2, c2, (ys ++ ((X.take q).drop se)), v, cm, M, D2, E2, (gf, _) :: (gn, _) :: (G2 ++ G), _, rfl, hD2, hOw2, ⟨(xs ++ ((X.take q).drop se)), hys2, by rw [List.length_append]; omega⟩, H2, Keeps_two (Keeps_head (Keeps_more hK G2) hK2 rfl), KeepsE_two (hKE.trans hKE2), hqv, (held_esc hOw2 hys2), hctc, .inr ⟨c15, rfl, gf, gn, rfl, H2.lo _ (List.mem_append_right _ (List.mem_append_left _ m1)), m0, _, _, List.mem_cons_of_mem _ m0⟩⟩
   have c15 := not_eq_false_ bc15
   refine pK (pT (pS (pG (pM 5 rfl (pL (pT (pZ ?_)))))));intro a S
   refine e_sc_ret ?_
   have hn := hI.n
   rw [hn, hln, htx]
   have hctc : (xs ++ (X.take q).drop se).length ≤ _ := hsbc
   exact r_ret3 S rfl rfl rfl rfl ⟨_, _, _, A2, c2, (ys ++ ((X.take q).drop se)), v, cm, M, _, E2, (G2 ++ G), sec, rfl, ⟨rd, A, l, c, r0, mb, mr, rfl, hbuf, hrd, hr0, hvX, hdr, hsz, hpX⟩, hOw2, ⟨(xs ++ ((X.take q).drop se)), hys2, by rw [List.length_append]; omega⟩, dc.open_.2 H, (Keeps_more hK G2).then_head rfl, (hKE.trans hKE2), hqv, (held_esc hOw2 hys2), hctc, .inl ⟨c15, rfl, rfl⟩⟩
  have c12 := of_decide_eq_false bc12
  have hxs : xs = [] := List.length_eq_zero_iff.1 (by omega)
  have htx := hI.raw hxs
  have hsb : SB _ _ _ ((X.take q).drop p0) := (seg_eq p0 hdr (b := q) (by omega)) ▸ (SB.buf hbuf H).cut (m := r0 + p0) (j := r0 + q) (by omega) (by omega)
  have hsbc := hsb.1
  have hheld := fun (c0 c2 c3 c4 c5 c6 c7 c8 c9 : Value) => held_raw (g := g) (c0 := c0) (c2 := c2) (c3 := c3) (c4 := c4) (c5 := c5) (c6 := c6) (c7 := c7) (c8 := c8) (c9 := c9) (mr := mr) (E := E) (td := TY.td) (eb := .slice Ae ys.length ce) (p0 := p0) hbuf hr0 hdr hvX hqv
  have hby := cut_by hXb q p0
  have hctl : ((X.take q).drop p0).length ≤ X.length := by rw [cut_len (by omega)]; omega
  refine pK (pT (pS (pS (pG (pM 1 rfl ?_)))))
  have hcon := validL_ _ _ _ ((X.take q).drop p0) hby hsb (by omega) (tabs_of hT H rfl)
  refine pC Tryz.func79 hcon ?_
  rintro e w ⟨rfl, hb⟩
  refine ⟨_, rfl, ?_⟩
  replace H := H.later hb; clear hcon hb hsb
  refine pP (p_not rfl) rfl (pL (pT (zc rfl (fun bc18 => ?_) (fun bc18 => ?_))))
  ·
   have c18 := not_eq_true_ bc18
   refine pS (pG (pM 4 rfl ?_))
   have hcon := gt.errNew_ wb _ _ _ ⟨#[105, 110, 118, 97, 108, 105, 100, 32, 117, 116, 102, 45, 56, 32, 115, 101, 113, 117, 101, 110, 99, 101, 32, 105, 110, 32, 116, 111, 107, 101, 110, 32, 46, 46]⟩ H
   refine pC Tryz.func49 hcon ?_
   rintro e w ⟨gn, rfl, hH⟩
   refine ⟨_, rfl, ?_⟩
   clear H hcon; have H := hH; clear hH
   have hDq : dc.Dec TY wb g X q v cm M sec sk (.slice Ae ys.length ce) (line) er ((g, .cells #[rd, .slice A l.length c, .int .i64 (r0 : Int), .int .i64 ((r0 + q : Nat) : Int), .bool cm, .int .u8 sec, .bool sk, .slice Ae ys.length ce, .int .i64 ((line : Nat) : Int), er] 58 (0, 0)) :: (mb ++ mr)) := ⟨rd, A, l, c, r0, mb, mr, rfl, hbuf, hrd, hr0, hvX, hdr, hsz, hpX⟩
   have H1 := HH.errIn H
   have hcon := gt.synErr_ wb _ _ _ g X q v cm M sec sk _ _ er hDq H1 p0 (by omega) hqv (by omega) 118 (.pointer (some ⟨gn, 0, none⟩))
   refine pC Tryz.func48 hcon ?_
   rintro e w ⟨gf, D2, rfl, hD2, hH, hK2⟩
   refine ⟨_, rfl, ?_⟩
   clear H hcon H1; have H := hH; clear hH
   refine pM 3 rfl (pL (pT (pZ (pU ?_))));intro a S
   refine e_sc_ret ?_
   have hn := hI.n
   rw [hn, hln, htx]
   have H2 : HH wb.heap.size wb _ (D2 ++ (((gf, _) :: (gn, _) :: G) ++ (E ++ L0))) := H.perm (List.perm_middle (l₁ := D2) (a := (gf, _)) (l₂ := (gn, _) :: (G ++ (E ++ L0)))).symm
   have hctc : ((X.take q).drop p0).length ≤ _ := hsbc
   exact r_ret3 S rfl rfl rfl rfl ⟨_, _, _, Ae, ce, ys, v, cm, M, D2, E, (gf, _) :: (gn, _) :: G, _, rfl, hD2, hOw, ⟨xs, hys, by omega⟩, H2, Keeps_two (Keeps_head hK hK2 rfl), KeepsE_two hKE, hqv, (HeldT.keeps (hheld _ _ _ _ _ _ _ _ _) hK2), hctc, .inr ⟨c18, rfl, gf, gn, rfl, H2.lo _ (List.mem_append_right _ (List.mem_append_left _ m1)), m0, _, _, List.mem_cons_of_mem _ m0⟩⟩
  have c18 := not_eq_false_ bc18
  refine pK (pT (pS (pG (pM 5 rfl (pL (pT (pZ ?_)))))));intro a S
  refine e_sc_ret ?_
  have hn := hI.n
  rw [hn, hln, htx]
  have hctc : ((X.take q).drop p0).length ≤ _ := hsbc
  exact r_ret3 S rfl rfl rfl rfl ⟨_, _, _, Ae, ce, ys, v, cm, M, _, E, G, sec, rfl, ⟨rd, A, l, c, r0, mb, mr, rfl, hbuf, hrd, hr0, hvX, hdr, hsz, hpX⟩, hOw, ⟨xs, hys, by omega⟩, dc.open_.2 H, hK.then_head rfl, hKE, hqv, (hheld _ _ _ _ _ _ _ _ _), hctc, .inl ⟨c18, rfl, rfl⟩⟩
 revert a;refine pB ?_;intro a S
 refine c_loop (σ := Nat × Nat × Nat × Bool × Nat × dc.Bk × dc.Bk × dc.Bk × Option Addr × Nat × List Int × List Int) (fun s_ a w => match s_ with | ⟨q, se, v, cm, M, D, G, E, Ae, ce, ys, xs⟩ => SL a 242 [] [(0, .pointer (some ⟨g, 0, none⟩)), (1, .pointer (some ⟨gs, 0, none⟩)), (2, .pointer (some ⟨ge, 256, none⟩)), (9, .int .i64 (p0 : Int)), (10, .int .i64 (se : Int)), (11, .int .i64 (el.length : Int))] ∧ HH (wb.heap.size) wb w (D ++ (G ++ (E ++ L0))) ∧ (dc.Dec TY wb g X q v cm M sec sk (.slice Ae ys.length ce) line er D ∧ OwnB 5 (.slice Ae ys.length ce) ys E ∧ dc.Keeps D0 D G ∧ KeepsE (.slice A0 el.length c0) E0 (.slice Ae ys.length ce) E G ∧ ys = el ++ xs ∧ TkI sp hh sk X p0 q se xs)) (fun s_ => match s_ with | ⟨q, se, v, cm, M, D, G, E, Ae, ce, ys, xs⟩ => X.length - q) ⟨p0, p0, v0, cm0, M0, _, [], E0, A0, c0, el, []⟩ ⟨S.only ⟨rfl, rfl, rfl, rfl, rfl, rfl, trivial⟩, H, ⟨hD0, hOw0, dc.Keeps.refl _, KeepsE.refl _ _ _, (List.append_nil _).symm, TkI.start hpX⟩⟩ ?_
 clear S a H; rintro ⟨q, se, v, cm, M, D, G, E, Ae, ce, ys, xs⟩ a w ⟨S, H, hinv⟩
 obtain ⟨hD, hOw, hK, hKE, hys, hI⟩ := hinv
 have hqX := hI.2.2.1
 revert a;refine pB (pS (pS (pG (pM 1 rfl ?_))))
 have hcon := dec.ge.ensure_ wb _ D (G ++ (E ++ L0)) g X q v cm M sec sk (.slice Ae ys.length ce) line er hD H 1 (by omega) ae hE hlt
 refine pC Tryz.func22 hcon ?_
 rintro e w ⟨rfl, v1, cm1, M1, D1, hD1, G1, hH, hK1, hv1, hw1⟩
 refine ⟨_, rfl, ?_⟩
 clear H hcon; have H := hH; clear hH; rw [← List.append_assoc G1 G] at H
 refine pP (p_not rfl) rfl (pL (pT (zc rfl (fun bc21 => ?_) (fun bc21 => ?_))))
 ·
  have c21 := not_eq_true_ bc21
  have c21 := of_decide_eq_false c21
  have hall := hw1 (by omega)
  have hqe : q = X.length := by omega
  refine pX (pV (pY rfl (pV (pW (pT ?_)))));intro a S
  exact ⟨q, se, v1, cm1, M1, D1, G1 ++ G, E, Ae, ce, ys, xs, S.only ⟨rfl, rfl, rfl, rfl, rfl, rfl, trivial⟩, H, ⟨hD1, hOw, hK.trans hK1, hKE.more G1, hys, hI.stop (tk_nil (by omega)), by omega⟩⟩
 have c21 := not_eq_false_ bc21
 have c21 := of_decide_eq_true c21
 have hq1 := hv1 (by omega)
 obtain ⟨rd, A, l, c, r0, mb, mr, hDe, hbuf, hrd, hr0, hvX, hdr, hsz, hpX⟩ := id hD1
 subst hDe
 replace H := dc.open_.1 H
 have hlc := hbuf.1
 refine pK (pT (pS ?_));intro a S
 refine d_start (id := 5) [] 10 (bA 10 0) H rfl rfl rfl (fun w H => ?_)
 revert a;refine qM [0,1,4,5] rfl (qA 2 fa58_1 rfl rfl rfl rfl (qE 3 H rfl rfl rfl m0 rfl ag23 rfl (qA 6 fa58_3 rfl rfl rfl rfl (qE 7 H rfl rfl rfl m0 rfl ag3 rfl (qP 8 rfl (p_slice rfl (o_some rfl) (fun _ _ => o_none) (fun _ _ => o_none) (fun w => sl_sb_lo (m := r0 + q) Tryz.underlying23 sz5 rfl (by omega))) rfl (qM [9] rfl (qD (pT (pS (pS (pG (pM 1 rfl (pL (pT (pB ?_)))))))))))))))
 clear hlc
 intro a S
 refine c_loop (σ := Nat × Nat × Nat × Bool × Nat × Value × Option Addr × List Int × Nat × Nat × dc.Bk × dc.Bk × dc.Bk × dc.Bk × Option Addr × Nat × List Int × List Int) (fun s_ a w => match s_ with | ⟨i, se, v, cm, M, rd, A, l, c, r0, mb, mr, G, E, Ae, ce, ys, xs⟩ => SL a 242 [] [(0, .pointer (some ⟨g, 0, none⟩)), (1, .pointer (some ⟨gs, 0, none⟩)), (2, .pointer (some ⟨ge, 256, none⟩)), (9, .int .i64 (p0 : Int)), (10, .int .i64 (se : Int)), (11, .int .i64 (el.length : Int)), (12, .slice (cutAt A c (r0 + q) 1) (l.drop (r0 + q)).length (c - (r0 + q))), (13, .int .i64 (i : Int))] ∧ HH (wb.heap.size) wb w ((g, .cells #[rd, .slice A l.length c, .int .i64 (r0 : Int), .int .i64 ((r0 + q : Nat) : Int), .bool cm, .int .u8 sec, .bool sk, .slice Ae ys.length ce, .int .i64 (line : Int), er] 58 (0, 0)) :: (mb ++ (mr ++ (G ++ (E ++ L0))))) ∧ (DecO TY wb X q v cm M rd A l c r0 mb mr ∧ OwnB 5 (.slice Ae ys.length ce) ys E ∧ dc.Keeps D0 ((g, .cells #[rd, .slice A l.length c, .int .i64 (r0 : Int), .int .i64 ((r0 + q : Nat) : Int), .bool cm, .int .u8 sec, .bool sk, .slice Ae ys.length ce, .int .i64 (line : Int), er] 58 (0, 0)) :: (mb ++ mr)) G ∧ KeepsE (.slice A0 el.length c0) E0 (.slice Ae ys.length ce) E G ∧ ys = el ++ xs ∧ TkI sp hh sk X p0 (q + i) se xs ∧ (q + i ≤ v ∧ q < v))) (fun s_ => match s_ with | ⟨i, se, v, cm, M, rd, A, l, c, r0, mb, mr, G, E, Ae, ce, ys, xs⟩ => X.length - (q + i)) ⟨0, se, v1, cm1, M1, rd, A, l, c, r0, mb, mr, G1 ++ G, E, Ae, ce, ys, xs⟩ ⟨S.only ⟨rfl, rfl, rfl, rfl, rfl, rfl, rfl, rfl, trivial⟩, H, ⟨⟨hbuf, hrd, hr0, hvX, hdr, hsz, hpX⟩, hOw, hK.trans hK1, hKE.more G1, hys, hI, ⟨by omega, by omega⟩⟩⟩ ?_
 clear S a H; rintro ⟨i, se, v, cm, M, rd, A, l, c, r0, mb, mr, G, E, Ae, ce, ys, xs⟩ a w ⟨S, H, hinv⟩
 obtain ⟨hO, hOw, hK, hKE, hys, hI, hiv, hqv⟩ := hinv
 obtain ⟨hbuf, hrd, hr0, hvX, hdr, hsz, hpX⟩ := id hO
 have hlc := hbuf.1
 have hlq : (l.drop (r0 + q)).length = v - q := by rw [List.length_drop]; omega
 have hxl := hI.xs_le
 have hse := hI.2.1
 have hyl : ys.length = el.length + xs.length := by rw [hys, List.length_append]
 revert a;refine pS (pS (pG (pM 2 rfl (pP (p_len Tryz.underlying23 rfl) rfl (pP (p_lss rfl rfl) rfl (pL (pT (zc rfl (fun bc23 => ?_) (fun bc23 => ?_)))))))))
 ·
  have c23 := of_decide_eq_true bc23
  have hiq : i < v - q := by omega
  obtain ⟨gb, cs, fb, rfl, hcs, rfl, _, hrow⟩ := hbuf.ex (by omega)
  replace H : HH wb.heap.size wb _ ((g, _) :: (gb, .cells cs 5 fb) :: (mr ++ (G ++ (E ++ L0)))) := H
  have hcut : cutAt (some ⟨gb, 0, none⟩) c (r0 + q) 1 = some ⟨gb, r0 + q, none⟩ := by rw [cutAt_off, show offAt 0 c (r0 + q) = 0 + (r0 + q) from if_neg (by omega), Nat.zero_add]
  refine pK (pT (pS (pB (pS (pG (pM 2 rfl (pP (p_indexAddr (u := .slice (some ⟨gb, r0 + q, none⟩) (l.drop (r0 + q)).length (c - (r0 + q))) (by rw [← hcut]; rfl) rfl (fun w => ia_slice Tryz.underlying23 sz5 (by omega) (by omega))) rfl (pR H (r_load rfl m1 (row_at hrow (i := r0 + q + i) (by omega) (by omega)) (fun w hc => ld1 ag5 hc)) rfl ?_))))))))
  obtain ⟨b, hb, hbl⟩ := byte_nat hXb (i := q + i) (by omega)
  intro a S
  rw [dc.at_vis hdr hr0 (show q + i < v by omega) hvX, hb] at S
  revert a;refine pM 1 rfl (pL (pT (pS (pS (pG (pM 1 rfl (pP (p_neq rfl rfl) rfl (pL (pT (zc rfl (fun bc25 => ?_) (fun bc25 => ?_)))))))))))
  ·
   have c25 := bne_iff_ne.1 bc25
   refine pS (pS (pG (pM 2 rfl ?_)))
   have hcon := st.bget wb _ _ _ gs b sp (by omega) (List.mem_cons_of_mem _ (List.mem_cons_of_mem _ (List.mem_append_right _ (List.mem_append_right _ (List.mem_append_right _ hgs))))) H
   refine pC Tryz.func52 hcon ?_
   rintro e w ⟨rfl, hH⟩
   refine ⟨_, rfl, ?_⟩
   clear H hcon; have H := hH; clear hH
   refine pP (p_not rfl) rfl (pL (pT (zc rfl (fun bc28 => ?_) (fun bc28 => ?_))))
   ·
    have c28 := not_eq_true_ bc28
    refine pS (pG (pM 2 rfl (pA fa58_3 rfl rfl rfl (pD H rfl rfl m0 rfl ag3 rfl (pM 1 rfl (pP (p_add (r := ((r0 + (q + i) : Nat) : Int)) rfl rfl ((IntWalk.i64_in _ (by omega)).trans (by omega))) rfl (pM 1 rfl (pA fa58_3 rfl rfl rfl (pE H rfl rfl rfl .here (by first | decide | simp [Value.cells]) sz3 ?_)))))))));clear H;intro w H
    refine pL (pT (pX ?_))
    replace H := (HH.close2 H)
    refine pV (pV (pY rfl (pV (pV (pY rfl (pV (pY rfl (pV (pW (pT ?_))))))))));intro a S
    exact ⟨q + i, se, v, cm, M, _, G, E, Ae, ce, ys, xs, S.only ⟨rfl, rfl, rfl, rfl, rfl, rfl, trivial⟩, H, ⟨⟨rd, _, l, c, r0, _, mr, rfl, hbuf, hrd, hr0, hvX, hdr, hsz, by omega⟩, hOw, hK.then_head rfl, hKE, hys, hI.stop (tk_stop (by omega) (by rw [hb]; omega) (by rw [hb, Int.toNat_natCast]; exact c28)), by omega⟩⟩
   have c28 := not_eq_false_ bc28
   refine pK (pT (pX (pV (pW (pT (pG (pM 1 rfl (pP (p_add rfl rfl (nat_add (x := i) (y := 1) (by omega))) rfl (pM 1 rfl (pL (pT ?_)))))))))));intro a S
   exact ⟨⟨(i + 1), se, v, cm, M, rd, some ⟨gb, 0, none⟩, l, c, r0, [(gb, .cells cs 5 fb)], mr, G, E, Ae, ce, ys, xs⟩, ⟨S.only ⟨rfl, rfl, rfl, rfl, rfl, rfl, rfl, rfl, trivial⟩, H, ⟨hO, hOw, hK, hKE, hys, hI.ord (by omega) (by rw [hb]; omega) (by rw [hb, Int.toNat_natCast]; exact c28), ⟨by omega, by omega⟩⟩⟩, (show X.length - (q + (i + 1)) < X.length - (q + i) from by omega)⟩
  have c25 := bne_eq_false_iff_eq.1 bc25
  refine pK (pT (pS (pS (pG (pM 1 rfl (pP (p_add rfl rfl (nat_add (x := i) (y := 1) (by omega))) rfl (pM 1 rfl (pP (p_len Tryz.underlying23 rfl) rfl (pP (p_geq rfl rfl) rfl (pL (pT (zc rfl (fun bc30 => ?_) (fun bc30 => ?_)))))))))))))
  ·
   have c30 := of_decide_eq_true bc30
   refine pS (pS (pG (pM 2 rfl (pP (p_add rfl rfl (nat_add (x := i) (y := 2) (by omega))) rfl ?_))))
   have hDq : dc.Dec TY wb g X q v cm M sec sk (.slice Ae ys.length ce) line er ((g, .cells #[rd, .slice (some ⟨gb, 0, none⟩) l.length c, .int .i64 (r0 : Int), .int .i64 ((r0 + q : Nat) : Int), .bool cm, .int .u8 sec, .bool sk, .slice Ae ys.length ce, .int .i64 (line : Int), er] 58 (0, 0)) :: ([(gb, .cells cs 5 fb)] ++ mr)) := ⟨rd, _, l, c, r0, _, mr, rfl, hbuf, hrd, hr0, hvX, hdr, hsz, hpX⟩
   have hcon := dec.ge.ensure_ wb _ _ (G ++ (E ++ L0)) g X q v cm M sec sk (.slice Ae ys.length ce) line er hDq (HH.close2 H) (i + 2) (by omega) ae hE hlt
   refine pC Tryz.func22 hcon ?_
   rintro e w ⟨rfl, v1, cm1, M1, D1, hD1, G1, hH, hK1, hv1, hw1⟩
   refine ⟨_, rfl, ?_⟩
   clear H hcon hDq; have H := hH; clear hH; rw [← List.append_assoc G1 G] at H
   obtain ⟨rd', A', l', c', r0', mb', mr', hDe, hbuf', hrd', hr0', hvX', hdr', hsz', hpX'⟩ := id hD1
   subst hDe
   replace H := dc.open_.1 H
   have hlc' := hbuf'.1
   refine pP (p_not rfl) rfl (pL (pT (zc rfl (fun bc33 => ?_) (fun bc33 => ?_))))
   ·
    have c33 := not_eq_true_ bc33
    have c33 := of_decide_eq_false c33
    have hall := hw1 (by omega)
    have hll' : l'.length = r0' + X.length := by omega
    refine pS (pG (pM 3 rfl (pA fa58_1 rfl rfl rfl (pD H rfl rfl m0 rfl ag23 rfl (pP (p_len Tryz.underlying23 rfl) rfl (pM 1 rfl (pA fa58_3 rfl rfl rfl ?_)))))));intro a S
    rw [hll'] at S
    revert a;refine pE H rfl rfl rfl .here (by first | decide | simp [Value.cells]) sz3 ?_;clear H;intro w H
    refine pL (pT (pX ?_))
    replace H := (dc.open_.2 H)
    refine pV (pV (pY rfl (pV (pV (pY rfl (pV (pY rfl (pV (pW (pT ?_))))))))));intro a S
    exact ⟨X.length, se, v1, cm1, M1, _, G1 ++ G, E, Ae, ce, ys, xs, S.only ⟨rfl, rfl, rfl, rfl, rfl, rfl, trivial⟩, H, ⟨⟨rd', A', l', c', r0', mb', mr', rfl, hbuf', hrd', hr0', hvX', hdr', hsz', Nat.le_refl _⟩, hOw, (hK.trans hK1).then_head rfl, hKE.more G1, hys, hI.last (by omega) (by rw [hb]; omega), by omega⟩⟩
   have c33 := not_eq_false_ bc33
   have c33 := of_decide_eq_true c33
   have hq2 := hv1 (by omega)
   obtain ⟨gb', cs', fb', rfl, hcs', rfl, _, hrow'⟩ := hbuf'.ex (by omega)
   replace H : HH wb.heap.size wb _ ((g, _) :: (gb', .cells cs' 5 fb') :: (mr' ++ ((G1 ++ G) ++ (E ++ L0)))) := H
   have hcut' : cutAt (some ⟨gb', 0, none⟩) c' (r0' + q) 1 = some ⟨gb', r0' + q, none⟩ := by rw [cutAt_off, show offAt 0 c' (r0' + q) = 0 + (r0' + q) from if_neg (by omega), Nat.zero_add]
   have hlq' : (l'.drop (r0' + q)).length = v1 - q := by rw [List.length_drop]; omega
   refine pK (pT ?_);intro a S
   refine d_start (id := 16) [] 10 (bA 10 0) H rfl rfl rfl (fun w H => ?_)
   revert a;refine qM [0,1,4,5] rfl (qA 2 fa58_1 rfl rfl rfl rfl (qE 3 H rfl rfl rfl m0 rfl ag23 rfl (qA 6 fa58_3 rfl rfl rfl rfl (qE 7 H rfl rfl rfl m0 rfl ag3 rfl (qP 8 rfl (p_slice rfl (o_some rfl) (fun _ _ => o_none) (fun _ _ => o_none) (fun w => sl_sb_lo (m := r0' + q) Tryz.underlying23 sz5 rfl (by omega))) rfl (qM [9] rfl (qD (pT (pS ?_)))))))));intro a S
   refine d_start (id := 17) [] 10 (bA 10 0) H rfl rfl rfl (fun w H => ?_)
   revert a;refine qM [0,1,2,6] rfl (qP 3 rfl (p_add rfl rfl (nat_add (x := i) (y := 1) (by omega))) rfl (qP 4 rfl (p_indexAddr (u := .slice (some ⟨gb', r0' + q, none⟩) (l'.drop (r0' + q)).length (c' - (r0' + q))) (by rw [← hcut']; rfl) rfl (fun w => ia_slice Tryz.underlying23 sz5 (by omega) (by omega))) rfl (qR 5 H rfl (r_load rfl m1 (row_at hrow' (i := r0' + q + (i + 1)) (by omega) (by omega)) (fun w hc => ld1 ag5 hc)) rfl ?_)))
   obtain ⟨b2, hb2, hb2l⟩ := byte_nat hXb (i := q + (i + 1)) (by omega)
   intro a S
   rw [dc.at_vis hdr' hr0' (show q + (i + 1) < v1 by omega) hvX', hb2] at S
   revert a;refine qP 7 rfl (p_indexAddr rfl rfl (fun w => ia_array Tryz.underlying94 sz5 (by omega) (by omega))) rfl (qR 8 H rfl (r_load (v := .int .u8 (hh b2 : Int)) rfl (List.mem_cons_of_mem _ (List.mem_cons_of_mem _ (List.mem_append_right _ (List.mem_append_right _ (List.mem_append_right _ hge))))) (by rw [show 256 + ((b2 : Nat) : Int).toNat * 1 = 256 + b2 by omega]; exact hec b2 hb2l) (fun w hc => ld1 ag5 hc)) rfl (qM [9] rfl (qD (pT (pS (pS (pG (pM 1 rfl (pP (p_eql rfl rfl) rfl (pL (pT (zc rfl (fun bc35 => ?_) (fun bc35 => ?_)))))))))))))
   ·
    have c35 := eq_of_beq bc35
    refine pX (pV (pW (pT (pG (pM 1 rfl (pP (p_add rfl rfl (nat_add (x := i) (y := 1) (by omega))) rfl (pM 1 rfl (pL (pT ?_)))))))));intro a S
    exact ⟨⟨(i + 1), se, v1, cm1, M1, rd', some ⟨gb', 0, none⟩, l', c', r0', [(gb', .cells cs' 5 fb')], mr', (G1 ++ G), E, Ae, ce, ys, xs⟩, ⟨S.only ⟨rfl, rfl, rfl, rfl, rfl, rfl, rfl, rfl, trivial⟩, H, ⟨⟨hbuf', hrd', hr0', hvX', hdr', hsz', hpX'⟩, hOw, hK.trans hK1, hKE.more G1, hys, hI.bs (by omega) (by rw [hb]; omega) (by rw [Nat.add_assoc, hb2, Int.toNat_natCast]; omega), ⟨by omega, by omega⟩⟩⟩, (show X.length - (q + (i + 1)) < X.length - (q + i) from by omega)⟩
   have c35 := ne_of_beq_false bc35
   have hne : hh (X.getD (q + i + 1) 0).toNat ≠ 0 := by rw [Nat.add_assoc, hb2, Int.toNat_natCast]; omega
   have heb : hh (X.getD (q + i + 1) 0).toNat = hh b2 := by rw [Nat.add_assoc, hb2, Int.toNat_natCast]
   refine pK (pT (pS (pS (pG (pM 2 rfl (pA fa58_6 rfl rfl rfl (pD H rfl rfl m0 rfl ag4 rfl (pP (p_not rfl) rfl (pL (pT (zc rfl (fun bc38 => ?_) (fun bc38 => ?_))))))))))))
   ·
    have c38 := not_eq_true_ bc38
    obtain rfl : sk = false := by simpa using c38
    refine pS ?_;intro a S
    refine d_start (id := 20) [22, 25] 26 (bA 26 0) H rfl rfl rfl (fun w H => ?_)
    revert a;refine qM [0,1,2,5,6,9,10,13,15,16,19] rfl (qA 3 fa58_7 rfl rfl rfl rfl (qE 4 H rfl rfl rfl m0 rfl ag23 rfl (qA 7 fa58_1 rfl rfl rfl rfl (qE 8 H rfl rfl rfl m0 rfl ag23 rfl (qA 11 fa58_2 rfl rfl rfl rfl (qE 12 H rfl rfl rfl m0 rfl ag3 rfl (qP 14 rfl (p_add rfl rfl (nat_add (x := r0') (y := se) (by omega))) rfl (qA 17 fa58_3 rfl rfl rfl rfl (qE 18 H rfl rfl rfl m0 rfl ag3 rfl (qP 20 rfl (p_add rfl rfl (nat_add (x := (r0' + q)) (y := i) (by omega))) rfl (qP 21 rfl (p_slice rfl (o_some rfl) (o_some rfl) (fun _ _ => o_none) (fun w => sl_sb (m := r0' + se) (h := r0' + q + i) Tryz.underlying23 sz5 rfl rfl (by have := hI.2.1; omega) (by omega) hbuf'.1)) rfl ?_)))))))))));intro a S
    rw [Nat.add_assoc r0' q i, seg_eq se hdr' (b := q + i) (by omega)] at S
    have hsrc := (((SB.buf (mb := [_]) hbuf' H).cut (m := r0' + se) (j := r0' + (q + i)) (by have := hI.2.1; omega) (by omega))).src (by rw [List.length_drop, List.length_take]; omega) Tryz.underlying23
    rw [seg_eq se hdr' (b := q + i) (by omega)] at hsrc
    have hcl : ((X.take (q + i)).drop se).length ≤ X.length := by rw [List.length_drop, List.length_take]; omega
    have H1 := HH.lp2 H
    refine d_ownK (i := 22) (_ :: _ :: (_ ++ _)) (r := (X.take (q + i)).drop se) (bA 26 8388607) S H1 rfl rfl rfl rfl hOw hsrc Tryz.underlying23 in5 rfl (by omega) (by decide) (wanted_none rfl) rfl rfl (by kernel_rfl) rfl ?_; clear S a H H1 hsrc; intro A2 c2 E2 G2 w a hOw2 H hKE2 S
    replace H := HH.un2 H
    revert a;refine qM [23] rfl (qA 24 fa58_7 rfl rfl rfl rfl ?_);intro a S
    refine d_store (i := 25) (bA 26 67108863) S H rfl rfl rfl rfl .here (by first | decide | simp [Value.cells]) (fun w u hc hz => st1 sz23 rfl hc hz) (wanted_none rfl) rfl (by kernel_rfl) rfl ?_; clear S a H; intro w a H S
    revert a;refine qD (pT (pS (pG (pM 3 rfl (pA fa58_7 rfl rfl rfl (pD H rfl rfl m0 rfl ag23 rfl (pM 1 rfl ?_)))))));intro a S
    refine l_lit [(.tmp 141)] S H rfl rfl Tryz.underlying23 sz5 zv5 rfl rfl (by simp [Value.cells]) rfl rfl rfl ?_; clear S a H; intro g39 w a H S
    have H1 := HH.lp3 H
    refine l_ownK (_ :: _ :: _ :: (_ ++ _)) (r := [(hh b2 : Int)]) S H1 rfl rfl rfl hOw2 (src_lit (vs := [(hh b2 : Int)].map (Value.int .u8)) H m0 Tryz.underlying23 (by simp [Value.oneCell'])) Tryz.underlying23 in5 rfl (by rw [List.length_append]; simp only [List.length_cons, List.length_nil]; omega) (by decide) rfl rfl rfl ?_; clear S a H H1; intro A3 c3 E3 G3 w a hOw3 H hKE3 S
    replace H := (HH.un3 H).tail
    revert a;refine pM 1 rfl (pA fa58_7 rfl rfl rfl (pE H rfl rfl rfl .here (by first | decide | simp [Value.cells]) sz23 ?_));clear H;intro w H
    have hI2 := hI.esc (by omega) (by rw [hb]; omega) hne
    rw [heb] at hI2
    have hys2 : (ys ++ (X.take (q + i)).drop se) ++ [(hh b2 : Int)] = el ++ (xs ++ ((X.take (q + i)).drop se ++ [(hh b2 : Int)])) := by rw [hys]; simp only [List.append_assoc]
    have hKE4 := ((hKE.more G1).trans hKE2).trans hKE3
    refine pL (pT ?_);intro a S
    refine d_start (id := 22) [] 13 (bA 13 0) H rfl rfl rfl (fun w H => ?_)
    revert a;refine qM [0,1,4,5,9] rfl (qA 2 fa58_3 rfl rfl rfl rfl (qE 3 H rfl rfl rfl m0 rfl ag3 rfl (qA 6 fa58_2 rfl rfl rfl rfl (qE 7 H rfl rfl rfl m0 rfl ag3 rfl (qP 8 rfl (p_sub (r := (q : Int)) rfl rfl ((IntWalk.i64_in _ (by omega)).trans (by omega))) rfl (qP 10 rfl (p_add rfl rfl (nat_add (x := q) (y := i) (by omega))) rfl (qP 11 rfl (p_add rfl rfl (nat_add (x := (q + i)) (y := 2) (by omega))) rfl (qM [12] rfl (qD (pT (pG (pM 1 rfl (pP (p_add rfl rfl (nat_add (x := i) (y := 1) (by omega))) rfl (pM 1 rfl (pL (pI 3 (pT (pG (pM 1 rfl (pP (p_add rfl rfl (nat_add (x := (i + 1)) (y := 1) (by omega))) rfl (pM 1 rfl (pL (pT ?_)))))))))))))))))))))));intro a S
    exact ⟨⟨((i + 1) + 1), ((q + i) + 2), v1, cm1, M1, rd', some ⟨gb', 0, none⟩, l', c', r0', [(gb', .cells cs' 5 fb')], mr', (G3 ++ (G2 ++ (G1 ++ G))), E3, A3, c3, ((ys ++ (X.take (q + i)).drop se) ++ [(hh b2 : Int)]), (xs ++ ((X.take (q + i)).drop se ++ [(hh b2 : Int)]))⟩, ⟨S.only ⟨rfl, rfl, rfl, rfl, rfl, rfl, rfl, rfl, trivial⟩, H, ⟨⟨hbuf', hrd', hr0', hvX', hdr', hsz', hpX'⟩, hOw3, (Keeps_more (Keeps_more (hK.trans hK1) G2) G3).then_head rfl, hKE4, hys2, hI2, ⟨by omega, by omega⟩⟩⟩, (show X.length - (q + ((i + 1) + 1)) < X.length - (q + i) from by omega)⟩
   have c38 := not_eq_false_ bc38
   obtain rfl : sk = true := by simpa using c38
   refine pK (pT (pG (pM 1 rfl (pP (p_add rfl rfl (nat_add (x := i) (y := 1) (by omega))) rfl (pM 1 rfl (pL (pI 3 (pT (pG (pM 1 rfl (pP (p_add rfl rfl (nat_add (x := (i + 1)) (y := 1) (by omega))) rfl (pM 1 rfl (pL (pT ?_))))))))))))));intro a S
   exact ⟨⟨((i + 1) + 1), se, v1, cm1, M1, rd', some ⟨gb', 0, none⟩, l', c', r0', [(gb', .cells cs' 5 fb')], mr', (G1 ++ G), E, Ae, ce, ys, xs⟩, ⟨S.only ⟨rfl, rfl, rfl, rfl, rfl, rfl, rfl, rfl, trivial⟩, H, ⟨⟨hbuf', hrd', hr0', hvX', hdr', hsz', hpX'⟩, hOw, hK.trans hK1, hKE.more G1, hys, hI.escS (by omega) (by rw [hb]; omega) hne, ⟨by omega, by omega⟩⟩⟩, (show X.length - (q + ((i + 1) + 1)) < X.length - (q + i) from by omega)⟩
  have c30 := of_decide_eq_false bc30
  refine pK (pT (pS ?_));intro a S
  refine d_start (id := 17) [] 10 (bA 10 0) H rfl rfl rfl (fun w H => ?_)
  revert a;refine qM [0,1,2,6] rfl (qP 3 rfl (p_add rfl rfl (nat_add (x := i) (y := 1) (by omega))) rfl (qP 4 rfl (p_indexAddr (u := .slice (some ⟨gb, r0 + q, none⟩) (l.drop (r0 + q)).length (c - (r0 + q))) (by rw [← hcut]; rfl) rfl (fun w => ia_slice Tryz.underlying23 sz5 (by omega) (by omega))) rfl (qR 5 H rfl (r_load rfl m1 (row_at hrow (i := r0 + q + (i + 1)) (by omega) (by omega)) (fun w hc => ld1 ag5 hc)) rfl ?_)))
  obtain ⟨b2, hb2, hb2l⟩ := byte_nat hXb (i := q + (i + 1)) (by omega)
  intro a S
  rw [dc.at_vis hdr hr0 (show q + (i + 1) < v by omega) hvX, hb2] at S
  revert a;refine qP 7 rfl (p_indexAddr rfl rfl (fun w => ia_array Tryz.underlying94 sz5 (by omega) (by omega))) rfl (qR 8 H rfl (r_load (v := .int .u8 (hh b2 : Int)) rfl (List.mem_cons_of_mem _ (List.mem_cons_of_mem _ (List.mem_append_right _ (List.mem_append_right _ (List.mem_append_right _ hge))))) (by rw [show 256 + ((b2 : Nat) : Int).toNat * 1 = 256 + b2 by omega]; exact hec b2 hb2l) (fun w hc => ld1 ag5 hc)) rfl (qM [9] rfl (qD (pT (pS (pS (pG (pM 1 rfl (pP (p_eql rfl rfl) rfl (pL (pT (zc rfl (fun bc41 => ?_) (fun bc41 => ?_)))))))))))))
  ·
   have c41 := eq_of_beq bc41
   refine pX (pV (pW (pT (pG (pM 1 rfl (pP (p_add rfl rfl (nat_add (x := i) (y := 1) (by omega))) rfl (pM 1 rfl (pL (pT ?_)))))))));intro a S
   exact ⟨⟨(i + 1), se, v, cm, M, rd, some ⟨gb, 0, none⟩, l, c, r0, [(gb, .cells cs 5 fb)], mr, G, E, Ae, ce, ys, xs⟩, ⟨S.only ⟨rfl, rfl, rfl, rfl, rfl, rfl, rfl, rfl, trivial⟩, H, ⟨hO, hOw, hK, hKE, hys, hI.bs (by omega) (by rw [hb]; omega) (by rw [Nat.add_assoc, hb2, Int.toNat_natCast]; omega), ⟨by omega, by omega⟩⟩⟩, (show X.length - (q + (i + 1)) < X.length - (q + i) from by omega)⟩
  have c41 := ne_of_beq_false bc41
  have hne : hh (X.getD (q + i + 1) 0).toNat ≠ 0 := by rw [Nat.add_assoc, hb2, Int.toNat_natCast]; omega
  have heb : hh (X.getD (q + i + 1) 0).toNat = hh b2 := by rw [Nat.add_assoc, hb2, Int.toNat_natCast]
  refine pK (pT (pS (pS (pG (pM 2 rfl (pA fa58_6 rfl rfl rfl (pD H rfl rfl m0 rfl ag4 rfl (pP (p_not rfl) rfl (pL (pT (zc rfl (fun bc44 => ?_) (fun bc44 => ?_))))))))))))
  ·
   have c44 := not_eq_true_ bc44
   obtain rfl : sk = false := by simpa using c44
   refine pS ?_;intro a S
   refine d_start (id := 20) [22, 25] 26 (bA 26 0) H rfl rfl rfl (fun w H => ?_)
   revert a;refine qM [0,1,2,5,6,9,10,13,15,16,19] rfl (qA 3 fa58_7 rfl rfl rfl rfl (qE 4 H rfl rfl rfl m0 rfl ag23 rfl (qA 7 fa58_1 rfl rfl rfl rfl (qE 8 H rfl rfl rfl m0 rfl ag23 rfl (qA 11 fa58_2 rfl rfl rfl rfl (qE 12 H rfl rfl rfl m0 rfl ag3 rfl (qP 14 rfl (p_add rfl rfl (nat_add (x := r0) (y := se) (by omega))) rfl (qA 17 fa58_3 rfl rfl rfl rfl (qE 18 H rfl rfl rfl m0 rfl ag3 rfl (qP 20 rfl (p_add rfl rfl (nat_add (x := (r0 + q)) (y := i) (by omega))) rfl (qP 21 rfl (p_slice rfl (o_some rfl) (o_some rfl) (fun _ _ => o_none) (fun w => sl_sb (m := r0 + se) (h := r0 + q + i) Tryz.underlying23 sz5 rfl rfl (by have := hI.2.1; omega) (by omega) hbuf.1)) rfl ?_)))))))))));intro a S
   rw [Nat.add_assoc r0 q i, seg_eq se hdr (b := q + i) (by omega)] at S
   have hsrc := (((SB.buf (mb := [_]) hbuf H).cut (m := r0 + se) (j := r0 + (q + i)) (by have := hI.2.1; omega) (by omega))).src (by rw [List.length_drop, List.length_take]; omega) Tryz.underlying23
   rw [seg_eq se hdr (b := q + i) (by omega)] at hsrc
   have hcl : ((X.take (q + i)).drop se).length ≤ X.length := by rw [List.length_drop, List.length_take]; omega
   have H1 := HH.lp2 H
   refine d_ownK (i := 22) (_ :: _ :: (_ ++ _)) (r := (X.take (q + i)).drop se) (bA 26 8388607) S H1 rfl rfl rfl rfl hOw hsrc Tryz.underlying23 in5 rfl (by omega) (by decide) (wanted_none rfl) rfl rfl (by kernel_rfl) rfl ?_; clear S a H H1 hsrc; intro A2 c2 E2 G2 w a hOw2 H hKE2 S
   replace H := HH.un2 H
   revert a;refine qM [23] rfl (qA 24 fa58_7 rfl rfl rfl rfl ?_);intro a S
   refine d_store (i := 25) (bA 26 67108863) S H rfl rfl rfl rfl .here (by first | decide | simp [Value.cells]) (fun w u hc hz => st1 sz23 rfl hc hz) (wanted_none rfl) rfl (by kernel_rfl) rfl ?_; clear S a H; intro w a H S
   revert a;refine qD (pT (pS (pG (pM 3 rfl (pA fa58_7 rfl rfl rfl (pD H rfl rfl m0 rfl ag23 rfl (pM 1 rfl ?_)))))));intro a S
   refine l_lit [(.tmp 141)] S H rfl rfl Tryz.underlying23 sz5 zv5 rfl rfl (by simp [Value.cells]) rfl rfl rfl ?_; clear S a H; intro g45 w a H S
   have H1 := HH.lp3 H
   refine l_ownK (_ :: _ :: _ :: (_ ++ _)) (r := [(hh b2 : Int)]) S H1 rfl rfl rfl hOw2 (src_lit (vs := [(hh b2 : Int)].map (Value.int .u8)) H m0 Tryz.underlying23 (by simp [Value.oneCell'])) Tryz.underlying23 in5 rfl (by rw [List.length_append]; simp only [List.length_cons, List.length_nil]; omega) (by decide) rfl rfl rfl ?_; clear S a H H1; intro A3 c3 E3 G3 w a hOw3 H hKE3 S
   replace H := (HH.un3 H).tail
   revert a;refine pM 1 rfl (pA fa58_7 rfl rfl rfl (pE H rfl rfl rfl .here (by first | decide | simp [Value.cells]) sz23 ?_));clear H;intro w H
   have hI2 := hI.esc (by omega) (by rw [hb]; omega) hne
   rw [heb] at hI2
   have hys2 : (ys ++ (X.take (q + i)).drop se) ++ [(hh b2 : Int)] = el ++ (xs ++ ((X.take (q + i)).drop se ++ [(hh b2 : Int)])) := by rw [hys]; simp only [List.append_assoc]
   have hKE4 := (hKE.trans hKE2).trans hKE3
   refine pL (pT ?_);intro a S
   refine d_start (id := 22) [] 13 (bA 13 0) H rfl rfl rfl (fun w H => ?_)
   revert a;refine qM [0,1,4,5,9] rfl (qA 2 fa58_3 rfl rfl rfl rfl (qE 3 H rfl rfl rfl m0 rfl ag3 rfl (qA 6 fa58_2 rfl rfl rfl rfl (qE 7 H rfl rfl rfl m0 rfl ag3 rfl (qP 8 rfl (p_sub (r := (q : Int)) rfl rfl ((IntWalk.i64_in _ (by omega)).trans (by omega))) rfl (qP 10 rfl (p_add rfl rfl (nat_add (x := q) (y := i) (by omega))) rfl (qP 11 rfl (p_add rfl rfl (nat_add (x := (q + i)) (y := 2) (by omega))) rfl (qM [12] rfl (qD (pT (pG (pM 1 rfl (pP (p_add rfl rfl (nat_add (x := i) (y := 1) (by omega))) rfl (pM 1 rfl (pL (pI 3 (pT (pG (pM 1 rfl (pP (p_add rfl rfl (nat_add (x := (i + 1)) (y := 1) (by omega))) rfl (pM 1 rfl (pL (pT ?_)))))))))))))))))))))));intro a S
   exact ⟨⟨((i + 1) + 1), ((q + i) + 2), v, cm, M, rd, some ⟨gb, 0, none⟩, l, c, r0, [(gb, .cells cs 5 fb)], mr, (G3 ++ (G2 ++ G)), E3, A3, c3, ((ys ++ (X.take (q + i)).drop se) ++ [(hh b2 : Int)]), (xs ++ ((X.take (q + i)).drop se ++ [(hh b2 : Int)]))⟩, ⟨S.only ⟨rfl, rfl, rfl, rfl, rfl, rfl, rfl, rfl, trivial⟩, H, ⟨hO, hOw3, (Keeps_more (Keeps_more hK G2) G3).then_head rfl, hKE4, hys2, hI2, ⟨by omega, by omega⟩⟩⟩, (show X.length - (q + ((i + 1) + 1)) < X.length - (q + i) from by omega)⟩
  have c44 := not_eq_false_ bc44
  obtain rfl : sk = true := by simpa using c44
  refine pK (pT (pG (pM 1 rfl (pP (p_add rfl rfl (nat_add (x := i) (y := 1) (by omega))) rfl (pM 1 rfl (pL (pI 3 (pT (pG (pM 1 rfl (pP (p_add rfl rfl (nat_add (x := (i + 1)) (y := 1) (by omega))) rfl (pM 1 rfl (pL (pT ?_))))))))))))));intro a S
  exact ⟨⟨((i + 1) + 1), se, v, cm, M, rd, some ⟨gb, 0, none⟩, l, c, r0, [(gb, .cells cs 5 fb)], mr, G, E, Ae, ce, ys, xs⟩, ⟨S.only ⟨rfl, rfl, rfl, rfl, rfl, rfl, rfl, rfl, trivial⟩, H, ⟨hO, hOw, hK, hKE, hys, hI.escS (by omega) (by rw [hb]; omega) hne, ⟨by omega, by omega⟩⟩⟩, (show X.length - (q + ((i + 1) + 1)) < X.length - (q + i) from by omega)⟩
 have c23 := of_decide_eq_false bc23
 have hvq : q + i = v := by omega
 rw [hvq] at hI
 refine pX (pV (pV (pW (pT (pG (pM 2 rfl (pA fa58_3 rfl rfl rfl (pD H rfl rfl m0 rfl ag3 rfl (pM 1 rfl (pP (p_len Tryz.underlying23 rfl) rfl (pP (p_add (r := ((r0 + v : Nat) : Int)) rfl rfl ((IntWalk.i64_in _ (by omega)).trans (by omega))) rfl (pM 1 rfl (pA fa58_3 rfl rfl rfl (pE H rfl rfl rfl .here (by first | decide | simp [Value.cells]) sz3 ?_))))))))))))));clear H;intro w H
 refine pL (pI 1 ?_)
 replace H := dc.open_.2 H
 refine pT ?_;intro a S
 exact ⟨⟨v, se, v, cm, M, _, G, E, Ae, ce, ys, xs⟩, ⟨S.only ⟨rfl, rfl, rfl, rfl, rfl, rfl, trivial⟩, H, ⟨⟨rd, A, l, c, r0, mb, mr, rfl, hO.1, hO.2.1, hO.2.2.1, hO.2.2.2.1, hO.2.2.2.2.1, hO.2.2.2.2.2.1, by omega⟩, hOw, hK.then_head rfl, hKE, hys, hI⟩⟩, (show X.length - v < X.length - q from by omega)⟩
end gu
end Go.Proofs.YtbahngfpadjbhaaGreatDoor.dec
end
section
namespace Go.Proofs.HHW
open Go.RowKit Go.Proofs.YtbahngfpadjbhaaGreatDoorW.PrintWords
section
variable {P : Program} {ops : Array Oper} {Q : Exit → Act → World → Prop} {o : Oper} {rest : List Oper} {a : Act} {n : Nat} {ds : List Deferred} {F : List (Nat × Value)} {d B : Nat} {w0 w : World} {L : List (Nat × Obj)}
theorem HH.putO {L' : List (Nat × Obj)} {g : Nat} {ob ob' : Obj} (H : HH B w0 w L) (hu : Upd L g ob ob' L') : HH B w0 { w with heap := w.heap.setIfInBounds g ob' } L' := by
 have hlt := H.lt (p := (g, ob)) hu.mem
 simp only at hlt
 have hlo := H.lo (g, ob) hu.mem
 simp only at hlo
 refine H.upd hu ⟨rfl, rfl, rfl, by simp, fun k hk => ?_⟩ (fun k _ hk => ?_) ?_
 ·
  simp only [Array.getElem?_setIfInBounds]; rw [if_neg (by omega)]
 ·
  simp only [Array.getElem?_setIfInBounds]; rw [if_neg (by omega)]
 ·
  simp only [Array.getElem?_setIfInBounds]; rw [if_pos trivial, if_pos hlt]
theorem l_rangeS {t : TypeId} {x : Operand} {s : ByteArray} (S : SL a n ds F) (H : HH B w0 w L) (ho : o.op = .range t x) (hx : ev F x = some (.string s)) (ht : P.underlying t = some .string) (hg : o.guard = none) (hd : o.dst = some d) (hn : Nat.blt d n = true)
  (h : ∀ g w a, HH B w0 w ((g, .stringIter s 0) :: L) → SL a n ds ((d, .pointer (some ⟨g, 0, none⟩)) :: F) → wpList P ops Q rest a w) : wpList P ops Q (o :: rest) a w := by
 refine l_event S (v := .pointer (some ⟨w.heap.size, 0, none⟩)) (w1 := w.iter s 0) (fun ρ A => ?_) hg hd hn (fun a S' => h _ _ a (H.alloc (.stringIter s 0)) S')
 unfold execOp
 simp only [ho]
 rw [A x _ hx]
 exact run_v (run_range_string w t s ht)
theorem l_nextS {x : Operand} {s : ByteArray} {g i : Nat} (S : SL a n ds F) (H : HH B w0 w ((g, .stringIter s i) :: L)) (ho : o.op = .next x true) (hx : ev F x = some (.pointer (some ⟨g, 0, none⟩))) (hi : i < s.size) (hc : HHW.bt s (i : Int) < 128) (hg : o.guard = none) (hd : o.dst = some d) (hn : Nat.blt d n = true)
  (h : ∀ w a, HH B w0 w ((g, .stringIter s (i + 1)) :: L) → SL a n ds ((d, .tuple #[.bool true, .int .i64 (i : Int), .int .i32 (HHW.bt s (i : Int))]) :: F) → wpList P ops Q rest a w) : wpList P ops Q (o :: rest) a w := by
 have hat := H.at_ _ List.mem_cons_self
 simp only at hat
 have hb : HHW.bt s (i : Int) = ((s[i]'hi).toNat : Int) := by
  unfold HHW.bt
  simp only [Int.toNat_natCast, hi, dif_pos]
 refine l_event S (v := .tuple #[.bool true, .int .i64 (i : Int), .int .i32 (HHW.bt s (i : Int))]) (w1 := { w with heap := w.heap.setIfInBounds g (.stringIter s (i + 1)) }) (fun ρ A => ?_) hg hd hn (fun a S' => h _ a (H.putO .here) S')
 unfold execOp
 simp only [ho]
 rw [A x _ hx]
 refine run_v ?_
 simp only [Instr.next, getObj, setObj, Sem.run_bind, Sem.run, hat, Result.andThen, hi, if_true, decode_ascii s i hi (by omega)]
 rw [hb]
 simp [goInt, Sem.run, hat]
theorem l_nextE {x : Operand} {s : ByteArray} {g i : Nat} (S : SL a n ds F) (H : HH B w0 w ((g, .stringIter s i) :: L)) (ho : o.op = .next x true) (hx : ev F x = some (.pointer (some ⟨g, 0, none⟩))) (hi : ¬ i < s.size) (hg : o.guard = none) (hd : o.dst = some d) (hn : Nat.blt d n = true)
  (h : ∀ a, SL a n ds ((d, .tuple #[.bool false]) :: F) → wpList P ops Q rest a w) : wpList P ops Q (o :: rest) a w := by
 have hat := H.at_ _ List.mem_cons_self
 simp only at hat
 refine l_event S (v := .tuple #[.bool false]) (w1 := w) (fun ρ A => ?_) hg hd hn h
 unfold execOp
 simp only [ho]
 rw [A x _ hx]
 refine run_v ?_
 simp [Instr.next, getObj, Sem.run, hat, hi]
theorem src_str {P : Program} {w : World} {tx : TypeId} (hk : P.underlying tx = some .string) (s : ByteArray) : Src P 1 tx (.string s) (ints s).length ((ints s).map (Value.int .u8)) w := by
 have h := Src.ofString (P := P) (w := w) hk s
 have e : byteCells s = (ints s).map (Value.int .u8) := by
  unfold byteCells ints
  simp [List.map_map]
 rw [e] at h
 rwa [ints_len]
end
def fvb (f : Nat → Nat) : List Value := (List.range 256).map fun j => .int .u8 (f j : Int)
theorem fvb_len (f : Nat → Nat) : (fvb f).length = 256 := by simp [fvb]
theorem fvb_get (f : Nat → Nat) {j : Nat} (hj : j < 256) : (fvb f)[j]? = some (.int .u8 (f j : Int)) := by
 unfold fvb
 rw [List.getElem?_map, List.getElem?_range hj]; rfl
theorem fvb_set (f : Nat → Nat) {j : Nat} (v : Nat) : (fvb f).set j (.int .u8 (v : Int)) = fvb (fun k => if k = j then v else f k) := by
 apply List.ext_getElem?
 intro i
 rw [List.getElem?_set]
 by_cases hi : i < 256
 ·
  rw [fvb_get _ hi, fvb_get _ hi, fvb_len]
  by_cases e : j = i
  ·
   subst e; simp [hi]
  ·
   rw [if_neg e, if_neg (fun h => e h.symm)]
 ·
  have h1 : (fvb f)[i]? = none := List.getElem?_eq_none (by rw [fvb_len]; omega)
  have h2 : (fvb (fun k => if k = j then v else f k))[i]? = none := List.getElem?_eq_none (by rw [fvb_len]; omega)
  rw [h1, h2, fvb_len]
  split
  ·
   split
   ·
    omega
   ·
    rfl
  ·
   rfl
def escB (f h : Nat → Nat) (s : ByteArray) : Array Value := (fvb f ++ (fvb h ++ [Value.string s])).toArray
theorem escB_size (f h : Nat → Nat) (s : ByteArray) : (escB f h s).size = 513 := by simp [escB, fvb_len]
theorem escB_h (f h : Nat → Nat) (s : ByteArray) {j : Nat} (hj : j < 256) : (escB f h s)[256 + j]? = some (.int .u8 (h j : Int)) := by
 unfold escB
 rw [List.getElem?_toArray, List.getElem?_append_right (by rw [fvb_len]; omega), fvb_len, Nat.add_sub_cancel_left, List.getElem?_append_left (by rw [fvb_len]; exact hj), fvb_get h hj]
theorem escB_setf (f h : Nat → Nat) (s : ByteArray) {j : Nat} (hj : j < 256) (v : Nat) : (escB f h s).setIfInBounds j (.int .u8 (v : Int)) = escB (fun k => if k = j then v else f k) h s := by
 unfold escB
 rw [List.setIfInBounds_toArray, List.set_append_left _ _ (by rw [fvb_len]; exact hj), fvb_set]
theorem escB_seth (f h : Nat → Nat) (s : ByteArray) {j : Nat} (hj : j < 256) (v : Nat) : (escB f h s).setIfInBounds (256 + j) (.int .u8 (v : Int)) = escB f (fun k => if k = j then v else h k) s := by
 unfold escB
 rw [List.setIfInBounds_toArray, List.set_append_right _ _ (by rw [fvb_len]; omega), fvb_len, Nat.add_sub_cancel_left, List.set_append_left _ _ (by rw [fvb_len]; exact hj), fvb_set]
theorem escB_sets (f h : Nat → Nat) (s s' : ByteArray) : (escB f h s).setIfInBounds 512 (.string s') = escB f h s' := by
 unfold escB
 rw [List.setIfInBounds_toArray, List.set_append_right _ _ (by rw [fvb_len]; omega), fvb_len, List.set_append_right _ _ (by rw [fvb_len]; omega), fvb_len]
 simp
def eT (r : Nat) : Nat := if r = 10 then 110 else if r = 13 then 114 else if r = 9 then 116 else r
def EscOk (r : Nat) : Prop := r = 32 ∨ r = 44 ∨ r = 61 ∨ r = 92 ∨ r = 34 ∨ r = 10 ∨ r = 13 ∨ r = 9
def escT (r : Nat) : List Int := if r = 92 ∨ r = 10 ∨ r = 13 ∨ r = 9 then [92, (eT r : Int)] else [(r : Int)]
def tabF (l : List Int) : Nat → Nat := l.foldl (fun f r => fun k => if k = r.toNat then eT r.toNat else f k) (fun _ => 0)
def tabH (l : List Int) : Nat → Nat := l.foldl (fun f r => fun k => if k = eT r.toNat then r.toNat else f k) (fun _ => 0)
theorem tabF_snoc (l : List Int) (r : Int) : tabF (l ++ [r]) = fun k => if k = r.toNat then eT r.toNat else tabF l k := by unfold tabF; rw [List.foldl_append]; rfl
theorem tabH_snoc (l : List Int) (r : Int) : tabH (l ++ [r]) = fun k => if k = eT r.toNat then r.toNat else tabH l k := by unfold tabH; rw [List.foldl_append]; rfl
instance : DecidablePred EscOk := fun r => by unfold EscOk; infer_instance
theorem eT_lt {r : Nat} (h : EscOk r) : eT r < 256 := by
 rcases h with rfl | rfl | rfl | rfl | rfl | rfl | rfl | rfl <;> decide
theorem nums_size (l : List Int) : (strOfNums l).size = l.length := by simp [strOfNums, ByteArray.size]
theorem cut_q {r : Nat} (h : EscOk r) : (strOfNums ([39] ++ escT r ++ [39])).extract 1 ((escT r).length + 1) = strOfNums (escT r) := by
 rcases h with rfl | rfl | rfl | rfl | rfl | rfl | rfl | rfl <;> rfl
theorem bt_e {r : Nat} (h : EscOk r) : HHW.bt (strOfNums [(eT r : Int)]) 0 = (eT r : Int) := by
 rcases h with rfl | rfl | rfl | rfl | rfl | rfl | rfl | rfl <;> rfl
theorem take_ints {s : ByteArray} {i : Nat} (hi : i < s.size) : (ints s).take (i + 1) = (ints s).take i ++ [HHW.bt s (i : Int)] := by
 rw [List.take_add_one, ints_bt s hi]
 have := HHW.bt_range s (i : Int)
 rw [Int.toNat_of_nonneg this.1]
 rfl
theorem all_ok {s : ByteArray} (h : (ints s).all (fun x => decide (0 ≤ x ∧ EscOk x.toNat)) = true) : ∀ i, i < s.size → ∃ r : Nat, HHW.bt s (i : Int) = (r : Int) ∧ EscOk r := fun i hi => by
 have h1 := List.all_eq_true.1 h (HHW.bt s (i : Int)) (by
  have h2 := ints_bt s hi
  have h3 := HHW.bt_range s (i : Int)
  rw [Int.toNat_of_nonneg h3.1] at h2
  exact List.mem_of_getElem? h2)
 have h2 := of_decide_eq_true h1
 exact ⟨(HHW.bt s (i : Int)).toNat, by omega, h2.2⟩
def escS (k : Nat) : ByteArray := if k = 0 then ⟨#[32, 44]⟩ else if k = 1 then ⟨#[44, 61, 32]⟩ else if k = 2 then ⟨#[44, 32, 61]⟩ else if k = 3 then ⟨#[44, 61, 32]⟩ else ⟨#[92, 34, 10, 13, 9]⟩
theorem Thaw.set {cs : Array Value} {f : Nat × Nat} {j : Nat} {v : Value} (h : Thaw cs f) : Thaw (cs.setIfInBounds j v) f := fun i hi => h i (by simpa using hi)
theorem tab_lt : ∀ k, k < 5 → ∀ b, tabF (ints (escS k)) b < 256 ∧ tabH (ints (escS k)) b < 256 := by
 intro k hk b
 have h : (List.range 5).all (fun k => (List.range 256).all fun b => decide (tabF (ints (escS k)) b < 256 ∧ tabH (ints (escS k)) b < 256)) = true := by decide +kernel
 by_cases hb : b < 256
 ·
  exact of_decide_eq_true (List.all_eq_true.1 (List.all_eq_true.1 h k (List.mem_range.2 hk)) b (List.mem_range.2 hb))
 ·
  have hz : ∀ (l : List Int) (f g : Nat → Nat), f b = 0 → g b = 0 → (∀ x ∈ l, 0 ≤ x ∧ EscOk x.toNat) → (l.foldl (fun f r => fun k => if k = r.toNat then eT r.toNat else f k) f) b = 0 ∧ (l.foldl (fun f r => fun k => if k = eT r.toNat then r.toNat else f k) g) b = 0 := by
   intro l
   induction l with
   | nil => intro f g hf hg _; exact ⟨hf, hg⟩
   | cons x l ih =>
    intro f g hf hg hl
    have h2 := hl x List.mem_cons_self
    have h3 := eT_lt h2.2
    have h4 : x.toNat < 256 := by have := h2.2; unfold EscOk at this; omega
    rw [List.foldl_cons, List.foldl_cons]
    exact ih _ _ ((if_neg (by omega)).trans hf) ((if_neg (by omega)).trans hg) (fun y hy => hl y (List.mem_cons_of_mem _ hy))
  have h5 : (List.range 5).all (fun k => (ints (escS k)).all fun x => decide (0 ≤ x ∧ EscOk x.toNat)) = true := by decide +kernel
  have h6 := hz (ints (escS k)) (fun _ => 0) (fun _ => 0) rfl rfl (fun x hx => of_decide_eq_true (List.all_eq_true.1 (List.all_eq_true.1 h5 k (List.mem_range.2 hk)) x hx))
  exact ⟨by unfold tabF; rw [h6.1]; decide, by unfold tabH; rw [h6.2]; decide⟩
end Go.Proofs.HHW
end
section
namespace Go.Proofs.HHW
open Go.RowKit Go.Proofs.YtbahngfpadjbhaaGreatDoorW.PrintWords
section
variable {P : Program} {w : World}
end
theorem HeldT.C {B : Nat} {wb w : World} {D G E L : YtbahngfpadjbhaaGreatDoor.dc.Bk} {eb : Value} {A : Option Addr} {t : List Int} (h : HeldT D E eb A t) (H : HH B wb w (D ++ (G ++ (E ++ L)))) (hl : t.length ≤ 9223372036854775807) : (Kd.int .u8).C w A t.length t := by
 rcases h with rfl | ⟨gt, ot, rfl, h⟩
 ·
  exact ⟨rfl, by simp, fun h => absurd h (by simp)⟩
 ·
  have H2 : HH B wb w (D ++ (E ++ (G ++ L))) := H.perm (List.Perm.append_left D (List.perm_append_comm_assoc G E L))
  exact RB.C (YtbahngfpadjbhaaGreatDoor.dc.held_rb H2 (h.elim .inl fun h => .inr (.inl h))) hl
end Go.Proofs.HHW
end
