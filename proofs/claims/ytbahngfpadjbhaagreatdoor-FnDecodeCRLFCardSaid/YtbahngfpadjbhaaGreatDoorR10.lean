/- Part of the proof that FnDecodeCRLF answers true at every text, in every world that its card's statement admits; no condition beyond those. -/
import Derived.Test.YtbahngfpadjbhaaGreatDoorR08
import Derived.Test.YtbahngfpadjbhaaGreatDoorR09
import Derived.Test.YtbahngfpadjbhaaGreatDoorR05
import Derived.Test.YtbahngfpadjbhaaGreatDoorR04
set_option linter.unusedVariables false
set_option linter.unusedSimpArgs false
section
namespace Go.Proofs.YtbahngfpadjbhaaGreatDoor.dec
open Go.Proofs.YtbahngfpadjbhaaGreatDoor.fx
open Go.RowKit Go.Proofs.HHW Go.Proofs.YtbahngfpadjbhaaGreatDoorW.PrintWords Go.Proofs.YtbahngfpadjbhaaGreatDoor.dt
namespace ha
theorem _root_.Go.Proofs.HHW.HH.swapG {B : Nat} {wb w : World} {D G E L : List (Nat × Obj)} (H : HH B wb w (D ++ (G ++ (E ++ L)))) : HH B wb w (D ++ (E ++ (G ++ L))) := H.perm (List.Perm.append_left D (List.perm_append_comm_assoc G E L))
set_option maxHeartbeats 1000000 in
theorem take_ (wb w0 : World) (g : Nat) (X : List Int) (p V : Nat) (sec : Int) (sk : Bool) (line : Nat) (eb : Value) (K : Nat) (D0 E L : dc.Bk) (gs k : Nat) (hst : ST TY 5 wb w0 g X p V sec sk line eb K D0 E L) (hgs : (gs, Obj.cells (vec (sIn k)).toArray 124 (0, 0)) ∈ L) (hXb : ∀ x ∈ X, 0 ≤ x ∧ x < 256) (ae : Addr) (hE : wb.cell? ⟨1, 0, none⟩ = some (.iface 118 (.pointer (some ae)))) (hlt : 1 < wb.heap.size) : Calls Tryz.prog 37 #[.pointer (some ⟨g, 0, none⟩), .pointer (some ⟨gs, 0, none⟩)] w0 fun e w' => ∃ A' c' D' G, e = .returned (.slice A' (run k X p - p) c') ∧ ST TY 5 wb w' g X (run k X p) (min (run k X p + 1) X.length) sec sk line eb K D' E (G ++ L) ∧ dc.Keeps D0 D' G ∧ KeepsE eb E eb E G ∧ Held D' E (G ++ L) eb A' ((X.take (run k X p)).drop p) ∧ run k X p - p ≤ c' := by
 obtain ⟨v0, cm0, M0, hD0, hV, heb, H⟩ := hst
 obtain ⟨rd, A, l, c, r0, mb, mr, hDe, hbuf, hrd, hr0, hvX, hdr, hsz, hpX⟩ := id hD0
 rw [hDe] at H
 replace H := dc.open_.1 H
 refine c_enter (args := [.pointer (some ⟨g, 0, none⟩), .pointer (some ⟨gs, 0, none⟩)]) (k := 72) Tryz.func37 rfl rfl rfl ?_
 refine pS (pG (pM 1 rfl (pL (pT ?_))));intro a S
 refine c_scope ?_
 revert a;refine pS ?_;intro a S
 refine d_start (id := 1) [] 10 (bA 10 0) H rfl rfl rfl (fun w H => ?_)
 revert a;refine qM [0,1,4,5] rfl (qA 2 fa58_3 rfl rfl rfl rfl (qE 3 H rfl rfl rfl m0 rfl ag3 rfl (qA 6 fa58_2 rfl rfl rfl rfl (qE 7 H rfl rfl rfl m0 rfl ag3 rfl (qP 8 rfl (p_sub (r := (p : Int)) rfl rfl ((IntWalk.i64_in _ (by omega)).trans (by omega))) rfl (qM [9] rfl (qD (pT (pS ?_)))))))));intro a S
 refine c_label ?_
 revert a;refine pT ?_
 replace H := dc.open_.2 H
 rw [← hDe] at H
 clear hbuf hrd hr0 hvX hdr hDe hsz
 intro a S
 refine c_cut (fun a w => ∃ q : Nat, ∃ v : Nat, ∃ cm : Bool, ∃ M : Nat, ∃ D : dc.Bk, ∃ G : dc.Bk, SL a 74 [] [(0, .pointer (some ⟨g, 0, none⟩)), (1, .pointer (some ⟨gs, 0, none⟩)), (5, .int .i64 (p : Int))] ∧ HH (wb.heap.size) wb w (D ++ (G ++ (E ++ L))) ∧ dc.Dec TY wb g X q v cm M sec sk eb line .nilIface D ∧ dc.Keeps D0 D G ∧ run k X p = q ∧ min (q + 1) X.length ≤ v ∧ p ≤ q) ?_ ?_
 ·
  clear S a H; rintro a w ⟨q, v, cm, M, D, G, S, H, hinv⟩
  obtain ⟨hD, hK, hrun, hqv, hpq⟩ := hinv
  obtain ⟨rd, A, l, c, r0, mb, mr, hDe, hbuf, hrd, hr0, hvX, hdr, hsz, hpX⟩ := id hD
  subst hDe
  replace H := dc.open_.1 H
  have hlc := hbuf.1
  revert a;refine pS ?_;intro a S
  refine d_start (id := 11) [] 16 (bA 16 0) H rfl rfl rfl (fun w H => ?_)
  revert a;refine qM [0,1,4,5,8,10,11] rfl (qA 2 fa58_1 rfl rfl rfl rfl (qE 3 H rfl rfl rfl m0 rfl ag23 rfl (qA 6 fa58_2 rfl rfl rfl rfl (qE 7 H rfl rfl rfl m0 rfl ag3 rfl (qP 9 rfl (p_add rfl rfl (nat_add (x := r0) (y := p) (by omega))) rfl (qA 12 fa58_3 rfl rfl rfl rfl (qE 13 H rfl rfl rfl m0 rfl ag3 rfl (qP 14 rfl (p_slice rfl (o_some rfl) (o_some rfl) (fun _ _ => o_none) (fun w => sl_sb (m := r0 + p) (h := r0 + q) Tryz.underlying23 sz5 rfl rfl (by omega) (by omega) hlc)) rfl ?_))))))));intro a S
  rw [seg_eq p hdr (b := q) (by omega)] at S
  revert a;refine qM [15] rfl (qD (pT (pZ ?_)));intro a S
  refine e_sc_ret ?_
  subst hrun
  have hpl : ((X.take (run k X p)).drop p).length = run k X p - p := cut_len (by omega)
  have hhd := held_raw (g := g) (c0 := rd) (c2 := .int .i64 (r0 : Int)) (c3 := .int .i64 ((r0 + run k X p : Nat) : Int)) (c4 := .bool cm) (c5 := .int .u8 sec) (c6 := .bool sk) (c7 := eb) (c8 := .int .i64 (line : Int)) (c9 := .nilIface) (mr := mr) (td := 58) (E := E) (eb := eb) (p0 := p) (q := run k X p) hbuf hr0 hdr hvX (by omega)
  rw [hpl] at S
  refine r_ret1 S rfl rfl ⟨_, _, _, G, rfl, ⟨v, cm, M, ⟨rd, A, l, c, r0, mb, mr, rfl, hbuf, hrd, hr0, hvX, hdr, hsz, hpX⟩, hqv, heb, HH.swapG (dc.open_.2 H)⟩, hK, KeepsE.refl _ _ _, .of hhd, ?_⟩
  rw [← hpl, List.length_drop, List.length_take]; omega
 revert a;refine pB ?_;intro a S
 refine c_loop (σ := Nat × Nat × Bool × Nat × dc.Bk × dc.Bk) (fun s_ a w => match s_ with | ⟨q, v, cm, M, D, G⟩ => SL a 74 [] [(0, .pointer (some ⟨g, 0, none⟩)), (1, .pointer (some ⟨gs, 0, none⟩)), (5, .int .i64 (p : Int))] ∧ HH (wb.heap.size) wb w (D ++ (G ++ (E ++ L))) ∧ (dc.Dec TY wb g X q v cm M sec sk eb line .nilIface D ∧ dc.Keeps D0 D G ∧ p ≤ q ∧ run k X p = run k X q)) (fun s_ => match s_ with | ⟨q, v, cm, M, D, G⟩ => X.length - q) ⟨p, v0, cm0, M0, _, []⟩ ⟨S.only ⟨rfl, rfl, rfl, trivial⟩, H, ⟨hD0, dc.Keeps.refl _, Nat.le_refl _, rfl⟩⟩ ?_
 clear S a H; rintro ⟨q, v, cm, M, D, G⟩ a w ⟨S, H, hinv⟩
 obtain ⟨hD, hK, hpq, hrun⟩ := hinv
 revert a;refine pB (pS (pS (pG (pM 1 rfl ?_))))
 have hcon := dec.ge.ensure_ wb _ D (G ++ (E ++ L)) g X q v cm M sec sk eb line .nilIface hD H 1 (by omega) ae hE hlt
 refine pC Tryz.func22 hcon ?_
 rintro e w ⟨rfl, v1, cm1, M1, D1, hD1, G1, hH, hK1, hv1, hw1⟩
 refine ⟨_, rfl, ?_⟩
 clear H hcon; have H := hH; clear hH; rw [← List.append_assoc G1 G] at H
 refine pP (p_not rfl) rfl (pL (pT (zc rfl (fun bc3 => ?_) (fun bc3 => ?_))))
 ·
  have c3 := not_eq_true_ bc3
  have c3 := of_decide_eq_false c3
  refine pX (pV (pY rfl (pV (pW (pT ?_)))));intro a S
  exact ⟨q, v1, cm1, M1, D1, G1 ++ G, S.only ⟨rfl, rfl, rfl, trivial⟩, H, ⟨hD1, hK.trans hK1, by rw [hrun, run_end (by omega)], by have := hw1 (by omega); omega, hpq⟩⟩
 have c3 := not_eq_false_ bc3
 have c3 := of_decide_eq_true c3
 have hq1 := hv1 (by omega)
 obtain ⟨rd, A, l, c, r0, mb, mr, hDe, hbuf, hrd, hr0, hvX, hdr, hsz, hpX⟩ := id hD1
 subst hDe
 replace H := dc.open_.1 H
 have hlc := hbuf.1
 have hlq : (l.drop (r0 + q)).length = v1 - q := by rw [List.length_drop]; omega
 obtain ⟨gb, cs, fb, rfl, hcs, rfl, _, hrow⟩ := hbuf.ex (by omega)
 replace H : HH wb.heap.size wb _ ((g, _) :: (gb, .cells cs 5 fb) :: (mr ++ ((G1 ++ G) ++ (E ++ L)))) := H
 have hcut : cutAt (some ⟨gb, 0, none⟩) c (r0 + q) 1 = some ⟨gb, r0 + q, none⟩ := by rw [cutAt_off, show offAt 0 c (r0 + q) = 0 + (r0 + q) from if_neg (by omega), Nat.zero_add]
 refine pK (pT (pS ?_));intro a S
 refine d_start (id := 3) [] 10 (bA 10 0) H rfl rfl rfl (fun w H => ?_)
 revert a;refine qM [0,1,4,5] rfl (qA 2 fa58_1 rfl rfl rfl rfl (qE 3 H rfl rfl rfl m0 rfl ag23 rfl (qA 6 fa58_3 rfl rfl rfl rfl (qE 7 H rfl rfl rfl m0 rfl ag3 rfl (qP 8 rfl (p_slice rfl (o_some rfl) (fun _ _ => o_none) (fun _ _ => o_none) (fun w => sl_sb_lo (m := r0 + q) Tryz.underlying23 sz5 rfl (by omega))) rfl ?_)))));intro a S
 rw [hcut] at S
 revert a;refine qM [9] rfl (qD (pT (pS (pS (pG (pM 1 rfl (pP (p_len Tryz.underlying23 rfl) rfl (pM 1 rfl (pL (pT (pB ?_)))))))))));intro a S
 refine c_loop (σ := Nat) (fun s_ a w => match s_ with | i => SL a 74 [] [(0, .pointer (some ⟨g, 0, none⟩)), (1, .pointer (some ⟨gs, 0, none⟩)), (5, .int .i64 (p : Int)), (6, .slice (some ⟨gb, r0 + q, none⟩) (l.drop (r0 + q)).length (c - (r0 + q))), (30, .slice (some ⟨gb, r0 + q, none⟩) (l.drop (r0 + q)).length (c - (r0 + q))), (31, .int .i64 ((l.drop (r0 + q)).length : Int)), (32, .int .i64 (i : Int))] ∧ HH (wb.heap.size) wb w ((g, .cells #[rd, .slice (some ⟨gb, 0, none⟩) l.length c, .int .i64 (r0 : Int), .int .i64 ((r0 + q : Nat) : Int), .bool cm1, .int .u8 sec, .bool sk, eb, .int .i64 (line : Int), .nilIface] 58 (0, 0)) :: (gb, .cells cs 5 fb) :: (mr ++ ((G1 ++ G) ++ (E ++ L)))) ∧ (i ≤ v1 - q ∧ run k X q = run k X (q + i))) (fun s_ => match s_ with | i => v1 - q - i) 0 ⟨S.only ⟨rfl, rfl, rfl, rfl, rfl, rfl, rfl, trivial⟩, H, ⟨Nat.zero_le _, rfl⟩⟩ ?_
 clear S a H; rintro i a w ⟨S, H, hinv⟩
 obtain ⟨hi, hri⟩ := hinv
 revert a;refine pS (pG (pP (p_lss rfl rfl) rfl (pL (pT (pS (zc rfl (fun bc5 => ?_) (fun bc5 => ?_)))))))
 ·
  have c5 := of_decide_eq_true bc5
  refine pK (pT (pS (pB (pS (pG (pM 1 rfl (pP (p_indexAddr rfl rfl (fun w => ia_slice Tryz.underlying23 sz5 (by omega) (by omega))) rfl (pR H (r_load rfl m1 (row_at hrow (i := r0 + q + i) (by omega) (by omega)) (fun w hc => ld1 ag5 hc)) rfl ?_))))))))
  obtain ⟨b, hb, hbl⟩ := byte_nat hXb (i := q + i) (by omega)
  intro a S
  rw [dc.at_vis hdr hr0 (show q + i < v1 by omega) hvX, hb] at S
  revert a;refine pM 2 rfl (pL (pT (pS (pG (pM 2 rfl ?_)))))
  have hcon := st.bget wb _ _ _ gs b (sIn k) hbl (List.mem_cons_of_mem _ (List.mem_cons_of_mem _ (List.mem_append_right _ (List.mem_append_right _ (List.mem_append_right _ hgs))))) H
  refine pC Tryz.func52 hcon ?_
  rintro e w ⟨rfl, hH⟩
  refine ⟨_, rfl, ?_⟩
  clear H hcon; have H := hH; clear hH
  refine pP (p_not rfl) rfl (pL (pT (zc rfl (fun bc8 => ?_) (fun bc8 => ?_))))
  ·
   have c8 := not_eq_true_ bc8
   refine pS (pG (pM 2 rfl (pA fa58_3 rfl rfl rfl (pD H rfl rfl m0 rfl ag3 rfl (pM 1 rfl (pP (p_add (r := ((r0 + (q + i) : Nat) : Int)) rfl rfl ((IntWalk.i64_in _ (by omega)).trans (by omega))) rfl (pM 1 rfl (pA fa58_3 rfl rfl rfl (pE H rfl rfl rfl .here (by first | decide | simp [Value.cells]) sz3 ?_)))))))));clear H;intro w H
   refine pL (pT (pX (pY rfl (pV (pV (pY rfl (pV (pY rfl (pV (pW ?_))))))))))
   replace H := HH.close2 H
   refine pT ?_;intro a S
   exact ⟨q + i, v1, cm1, M1, _, G1 ++ G, S.only ⟨rfl, rfl, rfl, trivial⟩, H, ⟨⟨rd, _, l, c, r0, _, mr, rfl, hbuf, hrd, hr0, hvX, hdr, hsz, by omega⟩, (hK.trans hK1).then_head rfl, by rw [hrun, hri, run_stop (by omega) (by rw [hb, Int.toNat_natCast]; exact c8)], by omega, by omega⟩⟩
  have c8 := not_eq_false_ bc8
  have hmem := c8
  refine pK (pI 3 (pT (pG (pP (p_add rfl rfl (nat_add (x := i) (y := 1) (by omega))) rfl (pM 1 rfl (pL (pT ?_)))))));intro a S
  exact ⟨(i + 1), ⟨S.only ⟨rfl, rfl, rfl, rfl, rfl, rfl, rfl, trivial⟩, H, ⟨by omega, by rw [hri, run_step (by omega) (by rw [hb, Int.toNat_natCast]; exact hmem), Nat.add_assoc]⟩⟩, (show v1 - q - (i + 1) < v1 - q - i from by omega)⟩
 have c5 := of_decide_eq_false bc5
 refine pX (pV (pV (pW (pT (pG (pM 2 rfl (pA fa58_3 rfl rfl rfl (pD H rfl rfl m0 rfl ag3 rfl (pM 1 rfl (pP (p_len Tryz.underlying23 rfl) rfl ?_))))))))))
 have hvi : q + i = v1 := by omega
 refine pP (p_add (r := ((r0 + v1 : Nat) : Int)) rfl rfl ((IntWalk.i64_in _ (by omega)).trans (by omega))) rfl (pM 1 rfl (pA fa58_3 rfl rfl rfl (pE H rfl rfl rfl .here (by first | decide | simp [Value.cells]) sz3 ?_)));clear H;intro w H
 refine pL (pI 1 ?_)
 replace H := HH.close2 H
 refine pT ?_;intro a S
 exact ⟨⟨v1, v1, cm1, M1, _, G1 ++ G⟩, ⟨S.only ⟨rfl, rfl, rfl, trivial⟩, H, ⟨⟨rd, _, l, c, r0, _, mr, rfl, hbuf, hrd, hr0, hvX, hdr, hsz, by omega⟩, (hK.trans hK1).then_head rfl, by omega, by rw [hrun, hri, hvi]⟩⟩, (show X.length - v1 < X.length - q from by omega)⟩
end ha
end Go.Proofs.YtbahngfpadjbhaaGreatDoor.dec
end
section
namespace Go.Proofs.YtbahngfpadjbhaaGreatDoor.dt
open Go.RowKit Go.Proofs.HHW Go.Proofs.YtbahngfpadjbhaaGreatDoorW.PrintWords Go.Proofs.YtbahngfpadjbhaaGreatDoor.dc
def Rel (D0 E0 L0 : Bk) (eb0 : Value) (D E L : Bk) (eb : Value) : Prop := ∃ G, L = G ++ L0 ∧ Keeps D0 D G ∧ KeepsE eb0 E0 eb E G
theorem Rel.refl (D E L : Bk) (eb : Value) : Rel D E L eb D E L eb := ⟨[], rfl, Keeps.refl _, KeepsE.refl _ _ _⟩
theorem Rel.trans {D0 E0 L0 D1 E1 L1 D2 E2 L2 : Bk} {b0 b1 b2 : Value} (h : Rel D0 E0 L0 b0 D1 E1 L1 b1) (h' : Rel D1 E1 L1 b1 D2 E2 L2 b2) : Rel D0 E0 L0 b0 D2 E2 L2 b2 := by
 obtain ⟨G, rfl, hk, he⟩ := h
 obtain ⟨G', rfl, hk', he'⟩ := h'
 exact ⟨G' ++ G, (List.append_assoc _ _ _).symm, hk.trans hk', he.trans he'⟩
theorem Rel.mem {D0 E0 L0 D E L : Bk} {b0 b : Value} (h : Rel D0 E0 L0 b0 D E L b) {x : Nat × Obj} (hx : x ∈ L0) : x ∈ L := by
 obtain ⟨G, rfl, _⟩ := h
 exact List.mem_append_right _ hx
theorem Rel.head {D0 E0 L0 r E L : Bk} {b0 b : Value} {g g' : Nat} {s s' : Array Value} {td td' : TypeId} (h : Rel D0 E0 L0 b0 ((g, .cells s td (0, 0)) :: r) E L b) (he : s'[1]? = s[1]?) : Rel D0 E0 L0 b0 ((g', .cells s' td' (0, 0)) :: r) E L b := by
 obtain ⟨G, rfl, hk, hE⟩ := h
 exact ⟨G, rfl, hk.then_head he, hE⟩
theorem Rel.of {D E L D' E' G : Bk} {b b' : Value} (hk : Keeps D D' G) (he : KeepsE b E b' E' G) : Rel D E L b D' E' (G ++ L) b' := ⟨G, rfl, hk, he⟩
theorem Rel.ofK {D E L D' G : Bk} {b : Value} (hk : Keeps D D' G) : Rel D E L b D' E (G ++ L) b := ⟨G, rfl, hk, KeepsE.refl _ _ _⟩
theorem Rel.ofN {D E L D' : Bk} {b : Value} (hk : Keeps D D' []) : Rel D E L b D' E L b := ⟨[], rfl, hk, KeepsE.refl _ _ _⟩
theorem Rel.one {D E L : Bk} {b : Value} (x : Nat × Obj) : Rel D E L b D E (x :: L) b := ⟨[x], rfl, Keeps_more (Keeps.refl _) [x], KeepsE.refl _ _ _⟩
theorem Held.rel {D0 E0 L0 D E L : Bk} {b0 b : Value} {A : Option Addr} {t : List Int} (h : Held D0 E0 L0 b0 A t) (hr : Rel D0 E0 L0 b0 D E L b) : Held D E L b A t := by
 obtain ⟨G, rfl, hk, he⟩ := hr
 exact h.kp hk he
theorem FaultAt.rel {td ti es : TypeId} {B : Nat} {D0 E0 L0 D E L : Bk} {b0 b : Value} {err : Value} {f : Int × Int} (h : FaultAt td ti es B L0 err f) (hr : Rel D0 E0 L0 b0 D E L b) : FaultAt td ti es B L err f := by
 obtain ⟨G, rfl, hk, he⟩ := hr
 exact h.more
section
variable {T : Ty} {te : TypeId} {wb w w' : World} {g : Nat} {X : List Int} {p V : Nat} {sec : Int} {sk : Bool} {line : Nat} {eb : Value} {K : Nat} {D E L : Bk}
theorem ST.le (h : ST T te wb w g X p V sec sk line eb K D E L) (V' : Nat) (hv : V' ≤ V) : ST T te wb w g X p V' sec sk line eb K D E L := by
 obtain ⟨v, cm, M, hD, hV, heb, H⟩ := h
 exact ⟨v, cm, M, hD, Nat.le_trans hv hV, heb, H⟩
theorem ST.leK (h : ST T te wb w g X p V sec sk line eb K D E L) (K' : Nat) (hk : K ≤ K') : ST T te wb w g X p V sec sk line eb K' D E L := by
 obtain ⟨v, cm, M, hD, hV, ⟨A, ys, c, h1, h2, h3⟩, H⟩ := h
 exact ⟨v, cm, M, hD, hV, ⟨A, ys, c, h1, h2, Nat.le_trans h3 hk⟩, H⟩
theorem ST.pX (h : ST T te wb w g X p V sec sk line eb K D E L) : p ≤ X.length := by
 obtain ⟨v, cm, M, ⟨rd, A, l, c, r0, mb, mr, _, _, _, _, _, _, _, hp⟩, _⟩ := h
 exact hp
theorem ST.VX (h : ST T te wb w g X p V sec sk line eb K D E L) : V ≤ X.length := by
 obtain ⟨v, cm, M, ⟨rd, A, l, c, r0, mb, mr, _, _, _, _, hv, _, _, hp⟩, h2, _⟩ := h
 omega
theorem ST.H (h : ST T te wb w g X p V sec sk line eb K D E L) : HH wb.heap.size wb w (D ++ (E ++ L)) := by
 obtain ⟨v, cm, M, _, _, _, H⟩ := h
 exact H
theorem ST.to (h : ST T te wb w g X p V sec sk line eb K D E L) {L' : Bk} (H : HH wb.heap.size wb w' (D ++ (E ++ L'))) : ST T te wb w' g X p V sec sk line eb K D E L' := by
 obtain ⟨v, cm, M, hD, hV, heb, _⟩ := h
 exact ⟨v, cm, M, hD, hV, heb, H⟩
theorem _root_.Go.Proofs.HHW.HH.front {B : Nat} {x : Nat × Obj} (H : HH B wb w (x :: (D ++ (E ++ L)))) : HH B wb w (D ++ (E ++ (x :: L))) :=
 H.perm (((List.perm_middle (l₁ := D) (a := x) (l₂ := E ++ L)).symm).trans (List.Perm.append_left D (List.perm_middle (l₁ := E) (a := x) (l₂ := L)).symm))
theorem _root_.Go.Proofs.HHW.HH.swapM {B : Nat} {G : Bk} (H : HH B wb w (D ++ (G ++ (E ++ L)))) : HH B wb w (D ++ (E ++ (G ++ L))) := H.perm (List.Perm.append_left D (List.perm_append_comm_assoc G E L))
theorem _root_.Go.Proofs.HHW.HH.errD {B : Nat} {x y : Nat × Obj} {mb mr : Bk} (H : HH B wb w (y :: (x :: (mb ++ (mr ++ (E ++ L)))))) : HH B wb w ((x :: (mb ++ mr)) ++ (E ++ (y :: L))) :=
 (HH.errIn H).perm (List.Perm.append_left (x :: (mb ++ mr)) (List.perm_middle (l₁ := E) (a := y) (l₂ := L)).symm)
theorem ST.new (h : ST T te wb w g X p V sec sk line eb K D E L) {x : Nat × Obj} (H : HH wb.heap.size wb w' (x :: (D ++ (E ++ L)))) : ST T te wb w' g X p V sec sk line eb K D E (x :: L) := h.to H.front
theorem ST.sb (h : ST T te wb w g X p V sec sk line eb K D E L) {A : Option Addr} {c : Nat} {t : List Int} (hh : Held D E L eb A t) (hc : t.length ≤ c) (hn : t ≠ []) : SB w A c t := hh.sb h.H hc hn
end
structure Wb (es : TypeId) (ge g3 g4 go : Nat) (wb : World) : Prop where
 ov : ∃ a v, wb.cell? ⟨go, 0, none⟩ = some (.iface es (.pointer (some a))) ∧ go < wb.heap.size ∧ wb.cell? a = some v ∧ a.block < wb.heap.size
 eof : ∃ ae, wb.cell? ⟨ge, 0, none⟩ = some (.iface es (.pointer (some ae)))
 lt : ge < wb.heap.size
 tabs : Lib.Utf8Tabs g3 g4 wb
structure Bd (X : List Int) (line K : Nat) : Prop where
 by_ : ∀ x ∈ X, 0 ≤ x ∧ x < 256
 len : X.length ≤ 4000
 line : line ≤ 100000000
 k : K ≤ 90000000
theorem sIn0 {x : Int} (h0 : 0 ≤ x) : sIn 0 x.toNat = true ↔ x = 32 := by
 rw [show sIn 0 x.toNat = (x.toNat == 32) from rfl, beq_iff_eq]
 omega
theorem Held.take {D E L : Bk} {eb : Value} {A : Option Addr} {t : List Int} (h : Held D E L eb A t) (n : Nat) : Held D E L eb A (t.take n) := by
 have hrow : ∀ {cs : Array Value} {o : Nat}, bf.Row cs o t → bf.Row cs o (t.take n) := fun {cs o} hr i v hi => hr i v (by
  rw [List.getElem?_take] at hi
  split at hi
  ·
   exact hi
  ·
   cases hi)
 have hl : (t.take n).length ≤ t.length := by rw [List.length_take]; omega
 rcases h with rfl | ⟨gt, ot, hA, ⟨g, st, td, n', c, cs, te, f, r, h1, h2, h3, h4⟩ | ⟨n', c, cs, te, f, h1, h2, h3, h4⟩ | ⟨cs, te, f, h1, h2⟩⟩
 ·
  exact .inl (by simp)
 ·
  exact .inr ⟨gt, ot, hA, .inl ⟨g, st, td, n', c, cs, te, f, r, h1, h2, by omega, hrow h4⟩⟩
 ·
  exact .inr ⟨gt, ot, hA, .inr (.inl ⟨n', c, cs, te, f, h1, h2, by omega, hrow h4⟩)⟩
 ·
  exact .inr ⟨gt, ot, hA, .inr (.inr ⟨cs, te, f, h1, hrow h2⟩)⟩
theorem Bd.up {X : List Int} {line K : Nat} (h : Bd X line K) {line' K' : Nat} (h1 : line' ≤ 100000000) (h2 : K' ≤ 90000000) : Bd X line' K' := ⟨h.by_, h.len, h1, h2⟩
theorem at_by {X : List Int} (h : ∀ x ∈ X, 0 ≤ x ∧ x < 256) (p : Nat) : 0 ≤ X.getD p 0 ∧ X.getD p 0 < 256 := by
 rcases Nat.lt_or_ge p X.length with h1 | h1
 ·
  rw [List.getD_eq_getElem?_getD, List.getElem?_eq_getElem h1]
  exact h _ (List.getElem_mem h1)
 ·
  rw [List.getD_eq_getElem?_getD, List.getElem?_eq_none h1]
  exact ⟨by decide, by decide⟩
theorem tkQ_le {k s : Nat} {X : List Int} {p : Nat} (h : p ≤ X.length) : p ≤ tkQ k s X p ∧ tkQ k s X p ≤ X.length := by
 unfold tkQ
 have := (tk_le (sIn s) (tabH (ints (escS k))) (X.drop p)).2
 rw [List.length_drop] at this
 omega
theorem lnT_le (sp : Nat → Bool) (X : List Int) (p q line : Nat) : lnT sp X p q line ≤ line + (q - p) := by
 have h : cnt 10 ((X.take q).drop p) ≤ q - p := Nat.le_trans (cnt_le _ _) (by rw [List.length_drop, List.length_take]; omega)
 unfold lnT
 split <;> omega
theorem ownB_zero {e : TypeId} {A : Option Addr} {l : List Int} {c : Nat} {ow : Bk} (h : OwnB e (.slice A l.length c) l ow) : OwnB e (.slice A ([] : List Int).length c) [] ow := by
 obtain ⟨h0, h⟩ := h
 rcases h with ⟨hv, hl, rfl⟩ | ⟨g, cs, c', f, hv, hc, hcs, rfl, ht, hr⟩
 ·
  injection hv with e1 e2 e3
  subst e1 e3
  exact ownB_nil e
 ·
  injection hv with e1 e2 e3
  subst e1 e3
  exact ⟨rfl, .inr ⟨g, cs, c, f, rfl, Nat.zero_le _, hcs, rfl, ht, fun j hj => by simp at hj⟩⟩
theorem buf_zero {te : TypeId} {A : Option Addr} {l : List Int} {c : Nat} {cm : Bool} {mb : Bk} (h : Buf te A l c cm mb) : Buf te A [] c cm mb := by
 obtain ⟨h1, h2, h3⟩ := h
 refine ⟨Nat.zero_le _, h2, ?_⟩
 rcases h3 with h3 | ⟨g, cs, f, e1, e2, e3, e4, _⟩
 ·
  exact .inl h3
 ·
  exact .inr ⟨g, cs, f, e1, e2, e3, e4, fun i v hi => by simp at hi⟩
theorem buf_copy {te : TypeId} {gb : Nat} {cs : Array Value} {t : List Int} {c : Nat} (hc : cs.size = c) (hcm : c ≤ 1000000000) (ht : t.length ≤ c) : Buf te (some ⟨gb, 0, none⟩) t c false [(gb, .cells (spl cs 0 (t.map (Value.int .u8))) te (0, 0))] := by
 refine ⟨ht, fun _ => hcm, .inr ⟨gb, _, (0, 0), rfl, by rw [spl_size]; exact hc, rfl, fun _ => rfl, fun i v hi => ?_⟩⟩
 have := spl_row (cs := cs) (l := []) (t := t) (fun i v hi => by simp at hi) (by simp; omega) i v (by simpa using hi)
 simpa using this
def Rl (L L' : Bk) : Prop := ∃ G, L' = G ++ L
theorem Rel.rl {D0 E0 L0 D E L : Bk} {b0 b : Value} (h : Rel D0 E0 L0 b0 D E L b) : Rl L0 L := by
 obtain ⟨G, h, _⟩ := h
 exact ⟨G, h⟩
theorem Rl.refl (L : Bk) : Rl L L := ⟨[], rfl⟩
theorem Rl.trans {L L1 L2 : Bk} (h : Rl L L1) (h' : Rl L1 L2) : Rl L L2 := by
 obtain ⟨G, rfl⟩ := h
 obtain ⟨G', rfl⟩ := h'
 exact ⟨G' ++ G, (List.append_assoc _ _ _).symm⟩
theorem Rl.mem {L L' : Bk} (h : Rl L L') {x : Nat × Obj} (hx : x ∈ L) : x ∈ L' := by
 obtain ⟨G, rfl⟩ := h
 exact List.mem_append_right _ hx
theorem lt_of_at {X : List Int} {p : Nat} (h : X.getD p 0 ≠ 0) : p < X.length := by
 rcases Nat.lt_or_ge p X.length with h1 | h1
 ·
  exact h1
 ·
  rw [List.getD_eq_getElem?_getD, List.getElem?_eq_none h1] at h
  exact absurd rfl h
theorem rest_yes {X : List Int} {p line : Nat} (h : X.getD (run 13 X p) 0 = 10) : restP X p line = (X.drop (run 13 X p + 1), line + 1) := if_pos (lt_of_at (by rw [h]; decide))
theorem rest_no {X : List Int} {p line : Nat} (hb : ∀ x ∈ X, 0 ≤ x ∧ x < 256) (h : X.getD (run 13 X p) 0 ≠ 10) : restP X p line = (X.drop (run 13 X p), line) := if_neg fun hl => by
 have h1 := run_at hl
 have h2 := at_by hb (run 13 X p)
 rw [show sIn 13 (X.getD (run 13 X p) 0).toNat = ((X.getD (run 13 X p) 0).toNat != 10) from rfl, bne_eq_false_iff_eq] at h1
 omega
theorem eol_yes {X : List Int} {p : Nat} (h : X.getD p 0 = 10) : dc.eol X p = (true, 1, 1) := by
 have := lt_of_at (X := X) (p := p) (by rw [h]; decide)
 unfold dc.eol
 rw [if_neg (by omega), if_pos h]
theorem eol_le {X : List Int} {p : Nat} (h : p ≤ X.length) : p + (dc.eol X p).2.1 ≤ X.length ∧ (dc.eol X p).2.2 ≤ (dc.eol X p).2.1 := by
 unfold dc.eol
 split
 ·
  exact ⟨h, Nat.le_refl _⟩
 ·
  split
  ·
   exact ⟨(by omega : p + 1 ≤ X.length), Nat.le_refl _⟩
  ·
   split
   ·
    split
    ·
     exact ⟨(by omega : p + 1 ≤ X.length), Nat.zero_le _⟩
    ·
     split
     ·
      exact ⟨(by omega : p + 2 ≤ X.length), (by omega : 1 ≤ 2)⟩
     ·
      exact ⟨h, Nat.le_refl _⟩
   ·
    exact ⟨h, Nat.le_refl _⟩
theorem eol_no {X : List Int} {p : Nat} (h : (dc.eol X p).1 = false) : (dc.eol X p).2.1 = 0 ∧ (dc.eol X p).2.2 = 0 := by
 unfold dc.eol at h ⊢
 (repeat' split at h) <;> first | (cases h; done) | skip
 all_goals (repeat' split) <;> first | exact ⟨rfl, rfl⟩ | contradiction | skip
theorem eol_cr {X : List Int} {p : Nat} (h : X.getD p 0 = 13) (he : (dc.eol X p).1 = true) : 1 ≤ (dc.eol X p).2.1 := by
 have := lt_of_at (X := X) (p := p) (by rw [h]; decide)
 unfold dc.eol at he ⊢
 rw [if_neg (by omega), if_neg (by omega), if_pos h] at he ⊢
 split
 ·
  exact Nat.le_refl 1
 ·
  split
  ·
   exact (by omega : 1 ≤ 2)
  ·
   rename_i h1 h2; rw [if_neg h1, if_neg h2] at he; cases he
section
variable {X : List Int} {f p line : Nat}
theorem skip_end (h1 : X.getD (run 0 X p) 0 ≠ 35) (h2 : X.getD (run 0 X p) 0 ≠ 10) (h3 : X.getD (run 0 X p) 0 ≠ 13) : skipP X (f + 1) p line = (run 0 X p, line) := by
 rw [skipP]
 by_cases h : X.length ≤ run 0 X p
 ·
  rw [if_pos h]
 ·
  rw [if_neg h, if_neg h1, if_neg (by omega)]
theorem skip_c (h1 : X.getD (run 0 X p) 0 = 35) (h : (dc.eol X (run 11 X (run 0 X p))).1 = true) : skipP X (f + 1) p line = skipP X f (run 11 X (run 0 X p) + (dc.eol X (run 11 X (run 0 X p))).2.1) (line + (dc.eol X (run 11 X (run 0 X p))).2.2) := by
 have := lt_of_at (X := X) (p := run 0 X p) (by rw [h1]; decide)
 rw [skipP, if_neg (by omega), if_pos h1, if_pos h]
theorem skip_cn (h1 : X.getD (run 0 X p) 0 = 35) (h : (dc.eol X (run 11 X (run 0 X p))).1 ≠ true) : skipP X (f + 1) p line = (p, line) := by
 have := lt_of_at (X := X) (p := run 0 X p) (by rw [h1]; decide)
 rw [skipP, if_neg (by omega), if_pos h1, if_neg h]
theorem skip_l (h1 : X.getD (run 0 X p) 0 = 10) : skipP X (f + 1) p line = skipP X f (run 0 X p + 1) (line + 1) := by
 have := lt_of_at (X := X) (p := run 0 X p) (by rw [h1]; decide)
 rw [skipP, if_neg (by omega), if_neg (by omega), if_pos (.inl h1), eol_yes h1, if_pos rfl]
theorem skip_r (h1 : X.getD (run 0 X p) 0 = 13) (h : (dc.eol X (run 0 X p)).1 = true) : skipP X (f + 1) p line = skipP X f (run 0 X p + (dc.eol X (run 0 X p)).2.1) (line + (dc.eol X (run 0 X p)).2.2) := by
 have := lt_of_at (X := X) (p := run 0 X p) (by rw [h1]; decide)
 rw [skipP, if_neg (by omega), if_neg (by omega), if_pos (.inr h1), if_pos h]
theorem skip_rn (h1 : X.getD (run 0 X p) 0 = 13) (h : (dc.eol X (run 0 X p)).1 ≠ true) : skipP X (f + 1) p line = (run 0 X p, line) := by
 have := lt_of_at (X := X) (p := run 0 X p) (by rw [h1]; decide)
 rw [skipP, if_neg (by omega), if_neg (by omega), if_pos (.inr h1), if_neg h]
theorem run_comment (h1 : X.getD (run 0 X p) 0 = 35) : run 0 X p + 1 ≤ run 11 X (run 0 X p) := by
 have h := lt_of_at (X := X) (p := run 0 X p) (by rw [h1]; decide)
 rw [run_step h (by rw [h1]; decide)]
 exact run_ge _ _ _
end
theorem Bd.drop {X : List Int} {line K : Nat} (h : Bd X line K) (p K' : Nat) (hK : K' ≤ 90000000) : Bd (X.drop p) line K' := ⟨fun x hx => h.by_ x (List.mem_of_mem_drop hx), by have := h.len; rw [List.length_drop]; omega, h.line, hK⟩
theorem ite_none {α : Type} {b : Bool} {x : α} (h : (if b = true then some x else none) = none) : b = false := by
 cases b
 ·
  rfl
 ·
  cases h
theorem ite_some {α : Type} {b : Bool} {x y : α} (h : (if b = true then some x else none) = some y) : b = true ∧ x = y := by
 cases b
 ·
  cases h
 ·
  exact ⟨rfl, Option.some.inj h⟩
theorem eol_end {X : List Int} {p : Nat} (h : X.length ≤ p) : dc.eol X p = (true, 0, 0) := if_pos h
theorem tru_ne {b : Bool} (h : b = true) : ¬ b = false := by rw [h]; decide
theorem tk_halt {sp : Nat → Bool} {h : Nat → Nat} {X : List Int} : ∀ {q : Nat}, q + (tk sp h (X.drop q)).2 < X.length → X.getD (q + (tk sp h (X.drop q)).2) 0 ≠ 92 ∧ sp (X.getD (q + (tk sp h (X.drop q)).2) 0).toNat = false := by
 intro q
 induction hn : X.length - q using Nat.strongRecOn generalizing q with
 | _ n ih =>
  intro hl
  have hq : q < X.length := by omega
  by_cases hc : X.getD q 0 = 92
  ·
   by_cases h1 : q + 1 < X.length
   ·
    by_cases hh : h (X.getD (q + 1) 0).toNat = 0
    ·
     rw [tk_bs h1 hc hh] at hl ⊢
     simp only at hl ⊢
     have := ih (X.length - (q + 1)) (by omega) rfl (by omega)
     rw [show q + ((tk sp h (X.drop (q + 1))).2 + 1) = q + 1 + (tk sp h (X.drop (q + 1))).2 by omega]
     exact this
    ·
     rw [tk_esc h1 hc hh] at hl ⊢
     simp only at hl ⊢
     have := ih (X.length - (q + 2)) (by omega) rfl (by omega)
     rw [show q + ((tk sp h (X.drop (q + 2))).2 + 2) = q + 2 + (tk sp h (X.drop (q + 2))).2 by omega]
     exact this
   ·
    rw [tk_last (by omega) hc] at hl
    simp only at hl
    omega
  ·
   cases hp : sp (X.getD q 0).toNat with
   | true =>
    rw [tk_ord hq hc hp] at hl ⊢
    simp only at hl ⊢
    have := ih (X.length - (q + 1)) (by omega) rfl (by omega)
    rw [show q + ((tk sp h (X.drop (q + 1))).2 + 1) = q + 1 + (tk sp h (X.drop (q + 1))).2 by omega]
    exact this
   | false =>
    rw [tk_stop hq hc hp]
    exact ⟨hc, hp⟩
theorem str_end {X : List Int} {p : Nat} (hb : ∀ x ∈ X, 0 ≤ x ∧ x < 256) (h : tkQ 4 8 X p < X.length) : X.getD (tkQ 4 8 X p) 0 = 34 := by
 have h1 := (tk_halt h).2
 have h2 := at_by hb (tkQ 4 8 X p)
 have h3 : ((X.getD (tkQ 4 8 X p) 0).toNat != 34) = false := h1
 rw [bne_eq_false_iff_eq] at h3
 omega
theorem sl_sb_hi {P : Program} {t e : TypeId} {w : World} {k' : IntKind} {l : List Int} {h c : Nat} {A : Option Addr} {j : Int} (hu : P.underlying t = some (.slice e)) (hs : szB P e = some 1) (hj : j = (h : Int)) (hh : h ≤ l.length) (hc : l.length ≤ c) :
  (Instr.sliceAt t (.slice A l.length c) none (some (.int k' j)) none).run P w = .ok (.slice A (l.take h).length c) w := by
 subst hj
 rw [sl_slice_hi hu hs (by omega) (by omega), Int.toNat_natCast, List.length_take, Nat.min_eq_left hh]
theorem num_in {x : Int} (h : x = 45 ∨ x = 46 ∨ 48 ≤ x ∧ x ≤ 57) : sIn 9 x.toNat = true := by
 have hx : x.toNat = 45 ∨ x.toNat = 46 ∨ 48 ≤ x.toNat ∧ x.toNat ≤ 57 := by omega
 have : ¬ (x.toNat = 44 ∨ x.toNat = 32 ∨ x.toNat = 13 ∨ x.toNat = 10) := by omega
 show (!(x.toNat == 44 || x.toNat == 32 || x.toNat == 13 || x.toNat == 10)) = true
 simp only [Bool.not_eq_true', Bool.or_eq_false_iff, beq_eq_false_iff_ne]
 omega
theorem Bd.rest {X : List Int} {line K p : Nat} (h : Bd X line K) (hl : line ≤ 40000000) : Bd (restP X p line).1 (restP X p line).2 0 := by
 unfold restP
 split
 ·
  exact ⟨(h.drop _ 0 (by omega)).by_, (h.drop _ 0 (by omega)).len, (by omega : line + 1 ≤ 100000000), by omega⟩
 ·
  exact h.drop _ 0 (by omega)
theorem rest_line (X : List Int) (p line : Nat) : (restP X p line).2 ≤ line + 1 := by
 unfold restP
 split
 ·
  exact Nat.le_refl _
 ·
  exact Nat.le_succ _
def Sl (D E L : Bk) (eb : Value) (v : Value) (t : List Int) : Prop := ∃ A c, v = .slice A t.length c ∧ Held D E L eb A t ∧ t.length ≤ c
theorem sl_ne {D E L : Bk} {eb : Value} {A : Option Addr} {t : List Int} {c : Nat} (hA : Held D E L eb A t) (hc : t.length ≤ c) : Sl D E L eb (.slice A t.length c) t := ⟨A, c, rfl, hA, hc⟩
theorem Sl.rel {D0 E0 L0 D E L : Bk} {b0 b v : Value} {t : List Int} (h : Sl D0 E0 L0 b0 v t) (hr : Rel D0 E0 L0 b0 D E L b) : Sl D E L b v t := by
 obtain ⟨A, c, h1, h2, h3⟩ := h
 exact ⟨A, c, h1, h2.rel hr, h3⟩
structure Fk where
 (td ti es : TypeId)
def ErrR (k : Fk) (B : Nat) (L : Bk) (err : Value) (f : Ft) : Prop := (f = none ∧ err = .nilIface) ∨ ∃ x, f = some x ∧ FaultAt k.td k.ti k.es B L err x
def NameR (k : Fk) (B : Nat) (D E L : Bk) (eb : Value) (r : Res (List Int)) (v err : Value) : Prop :=
 ErrR k B L err r.f ∧ (r.f = none → Sl D E L eb v r.r ∧ r.r ≠ [])
def TagR (k : Fk) (B : Nat) (D E L : Bk) (eb : Value) (r : Res (Option (List Int × List Int))) (v v' err : Value) : Prop :=
 ErrR k B L err r.f ∧ (r.f = none → (r.r = none ∧ v = .slice none 0 0) ∨ ∃ x, r.r = some x ∧ Sl D E L eb v x.1 ∧ x.1 ≠ [] ∧ Sl D E L eb v' x.2)
def FieldR (k : Fk) (B : Nat) (D E L : Bk) (eb : Value) (r : Res (Option (List Int × Int × List Int))) (v kind v' err : Value) : Prop :=
 ErrR k B L err r.f ∧ (r.f = none → ∃ x, r.r = some x ∧ Sl D E L eb v x.1 ∧ x.1 ≠ [] ∧ kind = .int .u8 x.2.1 ∧ Sl D E L eb v' x.2.2)
def TimeR (k : Fk) (B : Nat) (D E L : Bk) (eb : Value) (r : Res (List Int)) (v err : Value) : Prop :=
 ErrR k B L err r.f ∧ (r.f = none → (r.r = [] ∧ v = .slice none 0 0) ∨ (r.r ≠ [] ∧ Sl D E L eb v r.r))
end Go.Proofs.YtbahngfpadjbhaaGreatDoor.dt
namespace Go.Proofs.HHW
open Go.RowKit Go.Proofs.YtbahngfpadjbhaaGreatDoorW.PrintWords
theorem r_ifother {P : Program} {F : List (Nat × Value)} {B : Nat} {w0 : World} {L : List (Nat × Obj)} {t t' u e : TypeId} {x y : Operand} {ms : Array (String × TypeId)} {a b : Addr} {v v0 : Value} {tb : TypeId} (hi : P.underlying t = some (.interface ms)) (hinfo : (P.info? u).map (fun i => i.comparable) = some true) (hp : P.underlying u = some (.pointer e)) (hs : szB P e = some 1)
  (hx : ev F x = some (.iface u (.pointer (some b)))) (hy : ev F y = some (.iface u (.pointer (some a)))) (hne : a.block ≠ b.block) (hlt : a.block < B) (ha : w0.cell? a = some v) (hm : (b.block, Obj.cells #[v0] tb (0, 0)) ∈ L) : Reads P F B w0 L (.binOp .eql t x y t') (.bool false) := by
 intro ρ A o ho w H
 unfold execOp
 simp only [ho]
 rw [A x _ hx, A y _ hy]
 refine run_v ?_
 obtain ⟨i, hi1, hi2⟩ := Option.map_eq_some_iff.1 hinfo
 have hb := H.at_ _ hm
 have h2 : (sameAddr b a).run P w = .ok false w := by
  unfold World.cell? at ha
  split at ha
  ·
   rename_i c ta f he
   obtain ⟨lo, hi⟩ := f
   have he' : w.heap[a.block]? = some (.cells c ta (lo, hi)) := (H.below.block _ hlt).trans he
   have hsz : c.size ≠ 0 := fun h0 => by
    split at ha
    ·
     cases ha
    ·
     rw [Array.getElem?_eq_none (by omega)] at ha
     cases ha
   obtain ⟨k, hk⟩ : ∃ k, c.size = k + 1 := ⟨c.size - 1, by omega⟩
   simp [hk, sameAddr, Ne.symm hne, World.frozen?, he', hb, noView, viewAt, World.shape?, mayBeOne, stringish]
  ·
   cases ha
 have h1 : ∀ d : Nat, (Op.equalIn (d + 1) u (.pointer (some b)) (.pointer (some a))).run P w = .ok false w := fun d => by
  simp [Op.equalIn, HHW.run_underlying hp, run_size hs, h2, Result.andThen]
 have h3 : ∀ d : Nat, (Op.equalIn (d + 1 + 1) t (.iface u (.pointer (some b))) (.iface u (.pointer (some a)))).run P w = .ok false w := fun d => by
  rw [Op.equalIn]
  simp [HHW.run_underlying hi, run_info hi1, hi2, h1 d, Result.andThen]
 have h4 : (Op.equal t (.iface u (.pointer (some b))) (.iface u (.pointer (some a)))).run P w = .ok false w := h3 9998
 show ((Op.equal t (.iface u (.pointer (some b))) (.iface u (.pointer (some a)))) >>= fun r => pure (Value.bool r)).run P w = _
 rw [Sem.run_bind, h4]
 rfl
section
open YtbahngfpadjbhaaGreatDoorW.PrintLast
variable {P : Program} {ops : Array Oper} {Q : Exit → Act → World → Prop} {a : Act} {w : World} {B : Nat} {w0 : World} {L Lr L' : List (Nat × Obj)} {n d : Nat} {ds : List Deferred} {F : List (Nat × Value)} {dss : List Nat} {fuel : Nat} {l : Array Bool}
theorem d_startW {id : Nat} (dss : List Nat) (N : Nat) (l : Array Bool) (H : HH B w0 w L) (hsub : ∀ w, HH B w0 w L → HH B w0 w Lr) (hm : P.follows .mixedOrders = true) (hn : ops.size = N) (hl : Array.replicate N false = l)
  (h : ∀ w, HH B w0 w L → wpAnyLast P .any ops Q (fun w => HH B w0 w Lr) dss N l a w) : (Code.region id ops true).wp P Q a w :=
 start_ l hm hn hl (hsub _ H.drew) (fun _ => h _ H.drew)
theorem d_storeN {i : Nat} {oi : Oper} {t : TypeId} {x y : Operand} {g j : Nat} {cs : Array Value} {tt : TypeId} {v : Value} (l' : Array Bool) (S : SL a n ds F) (H : HH B w0 w L) (hi : ops[i]? = some oi) (ho : oi.op = .store t x y)
  (hx : ev F x = some (.pointer (some ⟨g, j, none⟩))) (hy : ev F y = some v) (hu : Upd L g (.cells cs tt (0, 0)) (.cells (cs.setIfInBounds j v) tt (0, 0)) L') (hj : j < cs.size)
  (hr : ∀ (w : World) u, w.cell? ⟨g, j, none⟩ = some u → w.frozen? ⟨g, j, none⟩ = false → (Instr.storeAt t (.pointer (some ⟨g, j, none⟩)) v).run P w = .ok () (w.setCell ⟨g, j, none⟩ v))
  (hsub : ∀ w, HH B w0 w L' → HH B w0 w Lr)
  (hw : Region.wanted oi (yielded ops a.tmps) = true) (hd : oi.dst = none) (hc : readyB .any ops l l' i = true) (hds : dss.contains i = false)
  (h : ∀ w a, HH B w0 w L' → SL a n ds F → wpAnyLast P .any ops Q (fun w => HH B w0 w Lr) dss fuel l' a w) : wpAnyLast P .any ops Q (fun w => HH B w0 w Lr) dss (fuel + 1) l a w :=
 one_ l' hi hd hc (by simpa using hds) (fun K hK => skip_ hw hd (run_store_at S.agree H ho hx hy hu hj hr) (hK.out _ _ (hsub _ (H.set hu)) (fun _ => h _ _ (H.set hu) S)))
end
theorem r_ret4 {P : Program} {a : Act} {n : Nat} {F : List (Nat × Value)} {w : World} {fn : Func} {R : Ending → World → Prop} {t t' t'' t3 : Tmp} {v v' v'' v3 : Value} (S : SL a n [] F) (hr : fn.results = #[.tmp t, .tmp t', .tmp t'', .tmp t3]) (hv : slot F t = some v) (hv' : slot F t' = some v') (hv'' : slot F t'' = some v'') (hv3 : slot F t3 = some v3) (h : R (.returned (.tuple #[v, v', v'', v3])) w) : bodyPost P fn R .ret a w := by
 refine ⟨S.defers, _, ?_, h⟩
 simp [results, hr, S.at_ t v hv, S.at_ t' v' hv', S.at_ t'' v'' hv'', S.at_ t3 v3 hv3]
end Go.Proofs.HHW
end
section
namespace Go.Proofs.YtbahngfpadjbhaaGreatDoor.dec
open Go.RowKit Go.Proofs.HHW Go.Proofs.YtbahngfpadjbhaaGreatDoorW.PrintWords Go.Proofs.YtbahngfpadjbhaaGreatDoor.dt
namespace hb
theorem ensS (wb w0 : World) (g : Nat) (X : List Int) (p V : Nat) (sec : Int) (sk : Bool) (line : Nat) (eb : Value) (K : Nat) (D E L : dc.Bk) (hst : ST TY 5 wb w0 g X p V sec sk line eb K D E L) (hw : Wb 118 1 2 3 0 wb) : Calls Tryz.prog 22 #[.pointer (some ⟨g, 0, none⟩), .int .i64 1] w0 fun e w' => ∃ (eb' : Value) (D' E' L' : dc.Bk), e = .returned (.bool (decide (p + 1 ≤ X.length))) ∧ ST TY 5 wb w' g X p (min (p + 1) X.length) sec sk line eb' K D' E' L' ∧ Rel D E L eb D' E' L' eb' := by
 obtain ⟨v, cm, M, hD, hV, heb, H⟩ := hst
 obtain ⟨_, ⟨ae, hE⟩, hlt, hT⟩ := hw
 refine (dec.ge.ensure_ wb w0 D (E ++ L) g X p v cm M sec sk eb line .nilIface hD H 1 (by omega) ae hE hlt).mono ?_
 rintro e w' ⟨rfl, v', cm', M', D', hD', G, hH, hK, h1, h2⟩
 exact ⟨eb, D', E, G ++ L, rfl, ⟨v', cm', M', hD', (by omega), heb, hH.swapM⟩, Rel.ofK hK⟩
theorem atS (wb w0 : World) (g : Nat) (X : List Int) (p V : Nat) (sec : Int) (sk : Bool) (line : Nat) (eb : Value) (K : Nat) (D E L : dc.Bk) (hst : ST TY 5 wb w0 g X p V sec sk line eb K D E L) (hpV : min (p + 1) X.length ≤ V) : Calls Tryz.prog 39 #[.pointer (some ⟨g, 0, none⟩), .int .i64 0] w0 fun e w' => ∃ (eb' : Value) (D' E' L' : dc.Bk), e = .returned (.int .u8 (X.getD p 0)) ∧ ST TY 5 wb w' g X p V sec sk line eb' K D' E' L' ∧ Rel D E L eb D' E' L' eb' := by
 have hpX := hst.pX
 have hVX := hst.VX
 obtain ⟨v, cm, M, hD, hV, heb, H⟩ := hst
 refine (dec.at_ wb w0 D (E ++ L) g X p v cm M sec sk eb line .nilIface hD H 0 (by omega)).mono ?_
 rintro e w' ⟨rfl, hH⟩
 have hvX : v ≤ X.length := by obtain ⟨_, _, _, _, _, _, _, _, _, _, _, h, _⟩ := hD; exact h
 have hval : (if p + 0 < v then X.getD (p + 0) 0 else 0) = X.getD p 0 := by
  by_cases h : p < v
  ·
   rw [if_pos (by omega)]; rfl
  ·
   rw [if_neg (by omega)]; rw [List.getD_eq_getElem?_getD, List.getElem?_eq_none (by omega)]; rfl
 rw [hval]
 exact ⟨eb, D, E, L, rfl, ⟨v, cm, M, hD, hV, heb, hH⟩, Rel.refl _ _ _ _⟩
theorem advS (wb w0 : World) (g : Nat) (X : List Int) (p V : Nat) (sec : Int) (sk : Bool) (line : Nat) (eb : Value) (K : Nat) (D E L : dc.Bk) (hst : ST TY 5 wb w0 g X p V sec sk line eb K D E L) (hp : p + 1 ≤ X.length) : Calls Tryz.prog 42 #[.pointer (some ⟨g, 0, none⟩), .int .i64 1] w0 fun e w' => ∃ (eb' : Value) (D' E' L' : dc.Bk), e = .returned (.tuple #[]) ∧ ST TY 5 wb w' g X (p + 1) V sec sk line eb' K D' E' L' ∧ Rel D E L eb D' E' L' eb' := by
 obtain ⟨v, cm, M, hD, hV, heb, H⟩ := hst
 refine (dec.advance_ wb w0 D (E ++ L) g X p v cm M sec sk eb line .nilIface hD H 1 hp).mono ?_
 rintro e w' ⟨rfl, D', hD', hH, hK⟩
 exact ⟨eb, D', E, L, rfl, ⟨v, cm, M, hD', hV, heb, hH⟩, Rel.ofN hK⟩
theorem eolS (wb w0 : World) (g : Nat) (X : List Int) (p V : Nat) (sec : Int) (sk : Bool) (line : Nat) (eb : Value) (K : Nat) (D E L : dc.Bk) (hst : ST TY 5 wb w0 g X p V sec sk line eb K D E L) (hw : Wb 118 1 2 3 0 wb) (hB : Bd X line K) : Calls Tryz.prog 41 #[.pointer (some ⟨g, 0, none⟩)] w0 fun e w' => ∃ (eb' : Value) (D' E' L' : dc.Bk), e = .returned (.bool (dc.eol X p).1) ∧ ST TY 5 wb w' g X (p + (dc.eol X p).2.1) 0 sec sk (line + (dc.eol X p).2.2) eb' K D' E' L' ∧ Rel D E L eb D' E' L' eb' := by
 obtain ⟨v, cm, M, hD, hV, heb, H⟩ := hst
 obtain ⟨_, ⟨ae, hE⟩, hlt, hT⟩ := hw
 refine (dec.ge.takeEOL_ wb w0 D (E ++ L) g X p v cm M sec sk eb line .nilIface hD H (by have := hB.line; omega) ae hE hlt).mono ?_
 rintro e w' ⟨b, k, n, v', cm', M', D', rfl, he, hD', G, hH, hK⟩
 rw [he]
 exact ⟨eb, D', E, G ++ L, rfl, ⟨v', cm', M', hD', Nat.zero_le _, heb, hH.swapM⟩, Rel.ofK hK⟩
theorem takS (wb w0 : World) (g : Nat) (X : List Int) (p V : Nat) (sec : Int) (sk : Bool) (line : Nat) (eb : Value) (K : Nat) (D E L : dc.Bk) (hst : ST TY 5 wb w0 g X p V sec sk line eb K D E L) (hw : Wb 118 1 2 3 0 wb) (hB : Bd X line K) (gs k : Nat) (hgs : (gs, Obj.cells (vec (sIn k)).toArray 124 (0, 0)) ∈ L) : Calls Tryz.prog 37 #[.pointer (some ⟨g, 0, none⟩), .pointer (some ⟨gs, 0, none⟩)] w0 fun e w' => ∃ (A' : Option Addr) (c' : Nat) (eb' : Value) (D' E' L' : dc.Bk), e = .returned (.slice A' ((X.take (run k X p)).drop p).length c') ∧ ST TY 5 wb w' g X (run k X p) (min (run k X p + 1) X.length) sec sk line eb' K D' E' L' ∧ Rel D E L eb D' E' L' eb' ∧ Held D' E' L' eb' A' ((X.take (run k X p)).drop p) ∧ ((X.take (run k X p)).drop p).length ≤ c' := by
 obtain ⟨_, ⟨ae, hE⟩, hlt, hT⟩ := hw
 have hpX := hst.pX
 have hge := run_ge k X p
 have hle := run_le (k := k) hpX
 refine (ha.take_ wb w0 g X p V sec sk line eb K D E L gs k hst hgs hB.by_ ae hE hlt).mono ?_
 rintro e w' ⟨A', c', D', G, rfl, hst', hK, hKE, hH, hc⟩
 have hln : ((X.take (run k X p)).drop p).length = run k X p - p := by rw [List.length_drop, List.length_take]; omega
 rw [hln]
 exact ⟨A', c', eb, D', E, G ++ L, rfl, hst', Rel.of hK hKE, hH, hc⟩
theorem escS_ (wb w0 : World) (g : Nat) (X : List Int) (p V : Nat) (sec : Int) (sk : Bool) (line : Nat) (eb : Value) (K : Nat) (D E L : dc.Bk) (hst : ST TY 5 wb w0 g X p V sec sk line eb K D E L) (hw : Wb 118 1 2 3 0 wb) (hB : Bd X line K) (hsk : sk = false) (gs k : Nat) (hgs : (gs, Obj.cells (vec (sIn k)).toArray 124 (0, 0)) ∈ L) (ge s : Nat) (hs : s < 5) (hge : (ge, Obj.cells (escB (tabF (ints (escS s))) (tabH (ints (escS s))) (escS s)) 96 (0, 0)) ∈ L) : Calls Tryz.prog 45 #[.pointer (some ⟨g, 0, none⟩), .pointer (some ⟨gs, 0, none⟩), .pointer (some ⟨ge, 256, none⟩)] w0 fun e w' => ∃ (A' : Option Addr) (c' : Nat) (err : Value) (sec' : Int) (eb' : Value) (D' E' L' : dc.Bk), e = .returned (.tuple #[.slice A' (tkT s k X p).length c', .int .i64 (p : Int), err]) ∧ ST TY 5 wb w' g X (tkQ s k X p) (tkQ s k X p) sec' sk (lnT (sIn k) X p (tkQ s k X p) line) eb' (K + 8000) D' E' L' ∧ Rel D E L eb D' E' L' eb' ∧ Held D' E' L' eb' A' (tkT s k X p) ∧ (tkT s k X p).length ≤ c' ∧ ((val (tkT s k X p) = true ∧ err = .nilIface ∧ sec' = sec) ∨ (val (tkT s k X p) = false ∧ sec' = fsec sec ∧ FaultAt 104 101 118 wb.heap.size L' err (flt X p (tkQ s k X p) (lnT (sIn k) X p (tkQ s k X p) line)))) := by
 subst hsk
 obtain ⟨hby, hXl, hln, hk⟩ := hB
 obtain ⟨v, cm, M, hD, hV, heb, H⟩ := hst
 obtain ⟨_, ⟨ae, hE⟩, hlt, hT⟩ := hw
 obtain ⟨A0, el, c0, rfl, hOw, hel⟩ := heb
 refine (gu.takeEsc_ wb w0 D L E g gs ge X p v cm M sec false line .nilIface (sIn k) (tabH (ints (escS s))) _ el A0 c0 hD hOw H hgs hge (fun j hj => escB_h _ _ _ hj) (fun j => (tab_lt s hs j).2) hby (by omega) hT (by omega) (by omega) ae hE hlt).mono ?_
 rintro e w' ⟨A', c', err, Ae, ce, ys, v', cm', M', D', E', G, sec', rfl, hD', hOw', ⟨xs, hys, hxs⟩, hH, hK, hKE, hqv, hheld, hc, hf⟩
 refine ⟨A', c', err, sec', _, D', E', G ++ L, rfl, ⟨v', cm', M', hD', hqv, ⟨Ae, ys, ce, rfl, hOw', (by rw [hys, List.length_append]; omega)⟩, hH.swapM⟩, Rel.of hK hKE, ?_, hc, ?_⟩
 ·
  rcases hheld with h | ⟨gt, ot, h1, h2⟩
  ·
   exact .inl h
  exact .inr ⟨gt, ot, h1, h2.elim .inl fun h => .inr (.inl h)⟩
 rcases hf with ⟨h1, h2, h3⟩ | ⟨h1, h2, gf, gn, h3, h4, h5, cs0, ty0, h6⟩
 ·
  exact .inl ⟨h1, h2, h3⟩
 exact .inr ⟨h1, h2, gf, gn, h3, List.mem_append_left _ h5, h4, cs0, ty0, List.mem_append_left _ h6⟩
theorem getS (wb w0 : World) (g : Nat) (X : List Int) (p V : Nat) (sec : Int) (sk : Bool) (line : Nat) (eb : Value) (K : Nat) (D E L : dc.Bk) (hst : ST TY 5 wb w0 g X p V sec sk line eb K D E L) (gs k : Nat) (x : Int) (hx : 0 ≤ x ∧ x < 256) (hgs : (gs, Obj.cells (vec (sIn k)).toArray 124 (0, 0)) ∈ L) : Calls Tryz.prog 52 #[.pointer (some ⟨gs, 0, none⟩), .int .u8 x] w0 fun e w' => ∃ (eb' : Value) (D' E' L' : dc.Bk), e = .returned (.bool (sIn k x.toNat)) ∧ ST TY 5 wb w' g X p V sec sk line eb' K D' E' L' ∧ Rel D E L eb D' E' L' eb' := by
 have hcon := st.bget wb w0 _ _ gs x.toNat (sIn k) (by omega) (List.mem_append_right D (List.mem_append_right E hgs)) hst.H
 rw [show ((x.toNat : Nat) : Int) = x from by omega] at hcon
 refine hcon.mono ?_
 rintro e w' ⟨rfl, hH⟩
 exact ⟨eb, D, E, L, rfl, hst.to hH, Rel.refl _ _ _ _⟩
theorem errS (wb w0 : World) (g : Nat) (X : List Int) (p V : Nat) (sec : Int) (sk : Bool) (line : Nat) (eb : Value) (K : Nat) (D E L : dc.Bk) (hst : ST TY 5 wb w0 g X p V sec sk line eb K D E L) (s : ByteArray) : Calls Tryz.prog 49 #[.string s] w0 fun e w' => ∃ (gn : Nat) (eb' : Value) (D' E' L' : dc.Bk), e = .returned (.iface 118 (.pointer (some ⟨gn, 0, none⟩))) ∧ ST TY 5 wb w' g X p V sec sk line eb' K D' E' L' ∧ Rel D E L eb D' E' L' eb' ∧ wb.heap.size ≤ gn ∧ (gn, Obj.cells #[.string s] 120 (0, 0)) ∈ L' := by
 refine (dec.gt.errNew_ wb w0 _ _ s hst.H).mono ?_
 rintro e w' ⟨gn, rfl, hH⟩
 exact ⟨gn, eb, D, E, _ :: L, rfl, hst.new hH, Rel.one _, hH.lo _ m0, m0⟩
theorem synS (wb w0 : World) (g : Nat) (X : List Int) (p V : Nat) (sec : Int) (sk : Bool) (line : Nat) (eb : Value) (K : Nat) (D E L : dc.Bk) (hst : ST TY 5 wb w0 g X p V sec sk line eb K D E L) (hB : Bd X line K) (o gn : Nat) (hop : o ≤ p) (hpV : p ≤ V) (hgn : wb.heap.size ≤ gn) (hmg : ∃ v0 ty0, (gn, Obj.cells #[v0] ty0 (0, 0)) ∈ L) : Calls Tryz.prog 48 #[.pointer (some ⟨g, 0, none⟩), .int .i64 (o : Int), .iface 118 (.pointer (some ⟨gn, 0, none⟩))] w0 fun e w' => ∃ (err : Value) (eb' : Value) (D' E' L' : dc.Bk), e = .returned err ∧ ST TY 5 wb w' g X p V (fsec sec) sk line eb' K D' E' L' ∧ Rel D E L eb D' E' L' eb' ∧ FaultAt 104 101 118 wb.heap.size L' err (flt X o p line) := by
 obtain ⟨v, cm, M, hD, hV, heb, H⟩ := hst
 refine (dec.gt.synErr_ wb w0 D (E ++ L) g X p v cm M sec sk eb line .nilIface hD H o hop (by omega) (by have := hB.line; omega) 118 (.pointer (some ⟨gn, 0, none⟩))).mono ?_
 rintro e w' ⟨gf, D', rfl, hD', hH, hK⟩
 obtain ⟨v0, ty0, hmg⟩ := hmg
 exact ⟨_, eb, D', E, _ :: L, rfl, ⟨v, cm, M, hD', hV, heb, hH.front⟩, (Rel.ofN hK).trans (Rel.one _), gf, gn, rfl, m0, hgn, v0, ty0, List.mem_cons_of_mem _ hmg⟩
theorem s0 (wb w0 : World) (g : Nat) (X : List Int) (p V : Nat) (sec : Int) (sk : Bool) (line : Nat) (eb : Value) (K : Nat) (D E L : dc.Bk) (hst : ST TY 5 wb w0 g X p V sec sk line eb K D E L)  : Calls Tryz.prog 38 #[] w0 fun e w' => ∃ (gs : Nat) (eb' : Value) (D' E' L' : dc.Bk), e = .returned (.pointer (some ⟨gs, 0, none⟩)) ∧ ST TY 5 wb w' g X p V sec sk line eb' K D' E' L' ∧ Rel D E L eb D' E' L' eb' ∧ (gs, Obj.cells (vec (sIn 0)).toArray 124 (0, 0)) ∈ L' := by
 refine (st.b_fieldSeparatorSpace wb w0 _ _ hst.H).mono ?_
 rintro e w' ⟨gs, rfl, hH⟩
 exact ⟨gs, eb, D, E, _ :: L, rfl, hst.new hH, Rel.one _, m0⟩
theorem s1 (wb w0 : World) (g : Nat) (X : List Int) (p V : Nat) (sec : Int) (sk : Bool) (line : Nat) (eb : Value) (K : Nat) (D E L : dc.Bk) (hst : ST TY 5 wb w0 g X p V sec sk line eb K D E L)  : Calls Tryz.prog 62 #[] w0 fun e w' => ∃ (gs : Nat) (eb' : Value) (D' E' L' : dc.Bk), e = .returned (.pointer (some ⟨gs, 0, none⟩)) ∧ ST TY 5 wb w' g X p V sec sk line eb' K D' E' L' ∧ Rel D E L eb D' E' L' eb' ∧ (gs, Obj.cells (vec (sIn 1)).toArray 124 (0, 0)) ∈ L' := by
 refine (st.b_whitespace wb w0 _ _ hst.H).mono ?_
 rintro e w' ⟨gs, rfl, hH⟩
 exact ⟨gs, eb, D, E, _ :: L, rfl, hst.new hH, Rel.one _, m0⟩
theorem s2 (wb w0 : World) (g : Nat) (X : List Int) (p V : Nat) (sec : Int) (sk : Bool) (line : Nat) (eb : Value) (K : Nat) (D E L : dc.Bk) (hst : ST TY 5 wb w0 g X p V sec sk line eb K D E L)  : Calls Tryz.prog 53 #[] w0 fun e w' => ∃ (gs : Nat) (eb' : Value) (D' E' L' : dc.Bk), e = .returned (.pointer (some ⟨gs, 0, none⟩)) ∧ ST TY 5 wb w' g X p V sec sk line eb' K D' E' L' ∧ Rel D E L eb D' E' L' eb' ∧ (gs, Obj.cells (vec (sIn 2)).toArray 124 (0, 0)) ∈ L' := by
 refine (st.b_tagKeyChars wb w0 _ _ hst.H).mono ?_
 rintro e w' ⟨gs, rfl, hH⟩
 exact ⟨gs, eb, D, E, _ :: L, rfl, hst.new hH, Rel.one _, m0⟩
theorem s5 (wb w0 : World) (g : Nat) (X : List Int) (p V : Nat) (sec : Int) (sk : Bool) (line : Nat) (eb : Value) (K : Nat) (D E L : dc.Bk) (hst : ST TY 5 wb w0 g X p V sec sk line eb K D E L)  : Calls Tryz.prog 46 #[] w0 fun e w' => ∃ (gs : Nat) (eb' : Value) (D' E' L' : dc.Bk), e = .returned (.pointer (some ⟨gs, 0, none⟩)) ∧ ST TY 5 wb w' g X p V sec sk line eb' K D' E' L' ∧ Rel D E L eb D' E' L' eb' ∧ (gs, Obj.cells (vec (sIn 5)).toArray 124 (0, 0)) ∈ L' := by
 refine (st.b_measurementChars wb w0 _ _ hst.H).mono ?_
 rintro e w' ⟨gs, rfl, hH⟩
 exact ⟨gs, eb, D, E, _ :: L, rfl, hst.new hH, Rel.one _, m0⟩
theorem s6 (wb w0 : World) (g : Nat) (X : List Int) (p V : Nat) (sec : Int) (sk : Bool) (line : Nat) (eb : Value) (K : Nat) (D E L : dc.Bk) (hst : ST TY 5 wb w0 g X p V sec sk line eb K D E L)  : Calls Tryz.prog 55 #[] w0 fun e w' => ∃ (gs : Nat) (eb' : Value) (D' E' L' : dc.Bk), e = .returned (.pointer (some ⟨gs, 0, none⟩)) ∧ ST TY 5 wb w' g X p V sec sk line eb' K D' E' L' ∧ Rel D E L eb D' E' L' eb' ∧ (gs, Obj.cells (vec (sIn 6)).toArray 124 (0, 0)) ∈ L' := by
 refine (st.b_tagValChars wb w0 _ _ hst.H).mono ?_
 rintro e w' ⟨gs, rfl, hH⟩
 exact ⟨gs, eb, D, E, _ :: L, rfl, hst.new hH, Rel.one _, m0⟩
theorem s7 (wb w0 : World) (g : Nat) (X : List Int) (p V : Nat) (sec : Int) (sk : Bool) (line : Nat) (eb : Value) (K : Nat) (D E L : dc.Bk) (hst : ST TY 5 wb w0 g X p V sec sk line eb K D E L)  : Calls Tryz.prog 57 #[] w0 fun e w' => ∃ (gs : Nat) (eb' : Value) (D' E' L' : dc.Bk), e = .returned (.pointer (some ⟨gs, 0, none⟩)) ∧ ST TY 5 wb w' g X p V sec sk line eb' K D' E' L' ∧ Rel D E L eb D' E' L' eb' ∧ (gs, Obj.cells (vec (sIn 7)).toArray 124 (0, 0)) ∈ L' := by
 refine (st.b_fieldKeyChars wb w0 _ _ hst.H).mono ?_
 rintro e w' ⟨gs, rfl, hH⟩
 exact ⟨gs, eb, D, E, _ :: L, rfl, hst.new hH, Rel.one _, m0⟩
theorem s8 (wb w0 : World) (g : Nat) (X : List Int) (p V : Nat) (sec : Int) (sk : Bool) (line : Nat) (eb : Value) (K : Nat) (D E L : dc.Bk) (hst : ST TY 5 wb w0 g X p V sec sk line eb K D E L)  : Calls Tryz.prog 59 #[] w0 fun e w' => ∃ (gs : Nat) (eb' : Value) (D' E' L' : dc.Bk), e = .returned (.pointer (some ⟨gs, 0, none⟩)) ∧ ST TY 5 wb w' g X p V sec sk line eb' K D' E' L' ∧ Rel D E L eb D' E' L' eb' ∧ (gs, Obj.cells (vec (sIn 8)).toArray 124 (0, 0)) ∈ L' := by
 refine (st.b_fieldStringValChars wb w0 _ _ hst.H).mono ?_
 rintro e w' ⟨gs, rfl, hH⟩
 exact ⟨gs, eb, D, E, _ :: L, rfl, hst.new hH, Rel.one _, m0⟩
theorem s9 (wb w0 : World) (g : Nat) (X : List Int) (p V : Nat) (sec : Int) (sk : Bool) (line : Nat) (eb : Value) (K : Nat) (D E L : dc.Bk) (hst : ST TY 5 wb w0 g X p V sec sk line eb K D E L)  : Calls Tryz.prog 61 #[] w0 fun e w' => ∃ (gs : Nat) (eb' : Value) (D' E' L' : dc.Bk), e = .returned (.pointer (some ⟨gs, 0, none⟩)) ∧ ST TY 5 wb w' g X p V sec sk line eb' K D' E' L' ∧ Rel D E L eb D' E' L' eb' ∧ (gs, Obj.cells (vec (sIn 9)).toArray 124 (0, 0)) ∈ L' := by
 refine (st.b_fieldValChars wb w0 _ _ hst.H).mono ?_
 rintro e w' ⟨gs, rfl, hH⟩
 exact ⟨gs, eb, D, E, _ :: L, rfl, hst.new hH, Rel.one _, m0⟩
theorem s10 (wb w0 : World) (g : Nat) (X : List Int) (p V : Nat) (sec : Int) (sk : Bool) (line : Nat) (eb : Value) (K : Nat) (D E L : dc.Bk) (hst : ST TY 5 wb w0 g X p V sec sk line eb K D E L)  : Calls Tryz.prog 63 #[] w0 fun e w' => ∃ (gs : Nat) (eb' : Value) (D' E' L' : dc.Bk), e = .returned (.pointer (some ⟨gs, 0, none⟩)) ∧ ST TY 5 wb w' g X p V sec sk line eb' K D' E' L' ∧ Rel D E L eb D' E' L' eb' ∧ (gs, Obj.cells (vec (sIn 10)).toArray 124 (0, 0)) ∈ L' := by
 refine (st.b_timeChars wb w0 _ _ hst.H).mono ?_
 rintro e w' ⟨gs, rfl, hH⟩
 exact ⟨gs, eb, D, E, _ :: L, rfl, hst.new hH, Rel.one _, m0⟩
theorem s11 (wb w0 : World) (g : Nat) (X : List Int) (p V : Nat) (sec : Int) (sk : Bool) (line : Nat) (eb : Value) (K : Nat) (D E L : dc.Bk) (hst : ST TY 5 wb w0 g X p V sec sk line eb K D E L)  : Calls Tryz.prog 40 #[] w0 fun e w' => ∃ (gs : Nat) (eb' : Value) (D' E' L' : dc.Bk), e = .returned (.pointer (some ⟨gs, 0, none⟩)) ∧ ST TY 5 wb w' g X p V sec sk line eb' K D' E' L' ∧ Rel D E L eb D' E' L' eb' ∧ (gs, Obj.cells (vec (sIn 11)).toArray 124 (0, 0)) ∈ L' := by
 refine (st.b_commentChars wb w0 _ _ hst.H).mono ?_
 rintro e w' ⟨gs, rfl, hH⟩
 exact ⟨gs, eb, D, E, _ :: L, rfl, hst.new hH, Rel.one _, m0⟩
theorem s12 (wb w0 : World) (g : Nat) (X : List Int) (p V : Nat) (sec : Int) (sk : Bool) (line : Nat) (eb : Value) (K : Nat) (D E L : dc.Bk) (hst : ST TY 5 wb w0 g X p V sec sk line eb K D E L)  : Calls Tryz.prog 64 #[] w0 fun e w' => ∃ (gs : Nat) (eb' : Value) (D' E' L' : dc.Bk), e = .returned (.pointer (some ⟨gs, 0, none⟩)) ∧ ST TY 5 wb w' g X p V sec sk line eb' K D' E' L' ∧ Rel D E L eb D' E' L' eb' ∧ (gs, Obj.cells (vec (sIn 12)).toArray 124 (0, 0)) ∈ L' := by
 refine (st.b_notEOL wb w0 _ _ hst.H).mono ?_
 rintro e w' ⟨gs, rfl, hH⟩
 exact ⟨gs, eb, D, E, _ :: L, rfl, hst.new hH, Rel.one _, m0⟩
theorem s13 (wb w0 : World) (g : Nat) (X : List Int) (p V : Nat) (sec : Int) (sk : Bool) (line : Nat) (eb : Value) (K : Nat) (D E L : dc.Bk) (hst : ST TY 5 wb w0 g X p V sec sk line eb K D E L)  : Calls Tryz.prog 88 #[] w0 fun e w' => ∃ (gs : Nat) (eb' : Value) (D' E' L' : dc.Bk), e = .returned (.pointer (some ⟨gs, 0, none⟩)) ∧ ST TY 5 wb w' g X p V sec sk line eb' K D' E' L' ∧ Rel D E L eb D' E' L' eb' ∧ (gs, Obj.cells (vec (sIn 13)).toArray 124 (0, 0)) ∈ L' := by
 refine (st.b_notNewline wb w0 _ _ hst.H).mono ?_
 rintro e w' ⟨gs, rfl, hH⟩
 exact ⟨gs, eb, D, E, _ :: L, rfl, hst.new hH, Rel.one _, m0⟩
theorem e0 (wb w0 : World) (g : Nat) (X : List Int) (p V : Nat) (sec : Int) (sk : Bool) (line : Nat) (eb : Value) (K : Nat) (D E L : dc.Bk) (hst : ST TY 5 wb w0 g X p V sec sk line eb K D E L)  : Calls Tryz.prog 47 #[] w0 fun e w' => ∃ (ge : Nat) (eb' : Value) (D' E' L' : dc.Bk), e = .returned (.pointer (some ⟨ge, 0, none⟩)) ∧ ST TY 5 wb w' g X p V sec sk line eb' K D' E' L' ∧ Rel D E L eb D' E' L' eb' ∧ (ge, Obj.cells (escB (tabF (ints (escS 0))) (tabH (ints (escS 0))) (escS 0)) 96 (0, 0)) ∈ L' := by
 refine (dec.gb.e0_ wb w0 _ _ hst.H).mono ?_
 rintro e w' ⟨ge, rfl, hH⟩
 exact ⟨ge, eb, D, E, _ :: L, rfl, hst.new hH, Rel.one _, m0⟩
theorem e1 (wb w0 : World) (g : Nat) (X : List Int) (p V : Nat) (sec : Int) (sk : Bool) (line : Nat) (eb : Value) (K : Nat) (D E L : dc.Bk) (hst : ST TY 5 wb w0 g X p V sec sk line eb K D E L)  : Calls Tryz.prog 54 #[] w0 fun e w' => ∃ (ge : Nat) (eb' : Value) (D' E' L' : dc.Bk), e = .returned (.pointer (some ⟨ge, 0, none⟩)) ∧ ST TY 5 wb w' g X p V sec sk line eb' K D' E' L' ∧ Rel D E L eb D' E' L' eb' ∧ (ge, Obj.cells (escB (tabF (ints (escS 1))) (tabH (ints (escS 1))) (escS 1)) 96 (0, 0)) ∈ L' := by
 refine (dec.gb.e1_ wb w0 _ _ hst.H).mono ?_
 rintro e w' ⟨ge, rfl, hH⟩
 exact ⟨ge, eb, D, E, _ :: L, rfl, hst.new hH, Rel.one _, m0⟩
theorem e2 (wb w0 : World) (g : Nat) (X : List Int) (p V : Nat) (sec : Int) (sk : Bool) (line : Nat) (eb : Value) (K : Nat) (D E L : dc.Bk) (hst : ST TY 5 wb w0 g X p V sec sk line eb K D E L)  : Calls Tryz.prog 56 #[] w0 fun e w' => ∃ (ge : Nat) (eb' : Value) (D' E' L' : dc.Bk), e = .returned (.pointer (some ⟨ge, 0, none⟩)) ∧ ST TY 5 wb w' g X p V sec sk line eb' K D' E' L' ∧ Rel D E L eb D' E' L' eb' ∧ (ge, Obj.cells (escB (tabF (ints (escS 2))) (tabH (ints (escS 2))) (escS 2)) 96 (0, 0)) ∈ L' := by
 refine (dec.gb.e2_ wb w0 _ _ hst.H).mono ?_
 rintro e w' ⟨ge, rfl, hH⟩
 exact ⟨ge, eb, D, E, _ :: L, rfl, hst.new hH, Rel.one _, m0⟩
theorem e3 (wb w0 : World) (g : Nat) (X : List Int) (p V : Nat) (sec : Int) (sk : Bool) (line : Nat) (eb : Value) (K : Nat) (D E L : dc.Bk) (hst : ST TY 5 wb w0 g X p V sec sk line eb K D E L)  : Calls Tryz.prog 58 #[] w0 fun e w' => ∃ (ge : Nat) (eb' : Value) (D' E' L' : dc.Bk), e = .returned (.pointer (some ⟨ge, 0, none⟩)) ∧ ST TY 5 wb w' g X p V sec sk line eb' K D' E' L' ∧ Rel D E L eb D' E' L' eb' ∧ (ge, Obj.cells (escB (tabF (ints (escS 3))) (tabH (ints (escS 3))) (escS 3)) 96 (0, 0)) ∈ L' := by
 refine (dec.gb.e3_ wb w0 _ _ hst.H).mono ?_
 rintro e w' ⟨ge, rfl, hH⟩
 exact ⟨ge, eb, D, E, _ :: L, rfl, hst.new hH, Rel.one _, m0⟩
theorem e4 (wb w0 : World) (g : Nat) (X : List Int) (p V : Nat) (sec : Int) (sk : Bool) (line : Nat) (eb : Value) (K : Nat) (D E L : dc.Bk) (hst : ST TY 5 wb w0 g X p V sec sk line eb K D E L)  : Calls Tryz.prog 60 #[] w0 fun e w' => ∃ (ge : Nat) (eb' : Value) (D' E' L' : dc.Bk), e = .returned (.pointer (some ⟨ge, 0, none⟩)) ∧ ST TY 5 wb w' g X p V sec sk line eb' K D' E' L' ∧ Rel D E L eb D' E' L' eb' ∧ (ge, Obj.cells (escB (tabF (ints (escS 4))) (tabH (ints (escS 4))) (escS 4)) 96 (0, 0)) ∈ L' := by
 refine (dec.gb.e4_ wb w0 _ _ hst.H).mono ?_
 rintro e w' ⟨ge, rfl, hH⟩
 exact ⟨ge, eb, D, E, _ :: L, rfl, hst.new hH, Rel.one _, m0⟩
end hb
end Go.Proofs.YtbahngfpadjbhaaGreatDoor.dec
end
section
namespace Go.Proofs.YtbahngfpadjbhaaGreatDoor.dec
open Go.Proofs.YtbahngfpadjbhaaGreatDoor.fx
open Go.RowKit Go.Proofs.HHW Go.Proofs.YtbahngfpadjbhaaGreatDoorW.PrintWords Go.Proofs.YtbahngfpadjbhaaGreatDoor.dt
namespace hc
set_option maxHeartbeats 1000000 in
theorem comS (wb w0 : World) (g : Nat) (X : List Int) (p V : Nat) (sec : Int) (sk : Bool) (line : Nat) (eb : Value) (K : Nat) (D E L : dc.Bk) (hst : ST TY 5 wb w0 g X p V sec sk line eb K D E L) (hW : Wb 118 1 2 3 0 wb) (hB : Bd X line K) : Calls Tryz.prog 50 #[.pointer (some ⟨g, 0, none⟩)] w0 fun e w' => ∃ (err : Value) (eb' : Value) (D' E' L' : dc.Bk), e = .returned err ∧ ST TY 5 wb w' g X ((comma X p).1) 0 (if (comma X p).2 = true then fsec sec else sec) sk line eb' K D' E' L' ∧ Rel D E L eb D' E' L' eb' ∧ ErrR ⟨104, 101, 118⟩ wb.heap.size L' err (if (comma X p).2 = true then some (flt X (comma X p).1 (comma X p).1 line) else none) := by
 obtain ⟨eb', D', E', L', hst, hr⟩ : ∃ (eb' : Value) (D' E' L' : dc.Bk), ST TY 5 wb w0 g X p V sec sk line eb' K D' E' L' ∧ Rel D E L eb D' E' L' eb' := ⟨eb, D, E, L, hst, Rel.refl _ _ _ _⟩
 refine c_enter (args := [.pointer (some ⟨g, 0, none⟩)]) (k := 43) Tryz.func50 rfl rfl rfl ?_
 refine pS (pG (pM 1 rfl (pL (pT (pS (pS (pG (pM 1 rfl ?_))))))))
 have hcon := dec.hb.ensS _ _ _ _ _ _ _ _ _ _ _ _ _ _ hst hW
 refine pC Tryz.func22 hcon ?_
 rintro e w ⟨eb', D', E', L', rfl, hst', hr'⟩
 refine ⟨_, rfl, ?_⟩
 replace hr := hr.trans hr'
 clear hst hr' hcon; have hst := hst'; clear hst'
 refine pP (p_not rfl) rfl (pL (pT (zc rfl (fun bc3 => ?_) (fun bc3 => ?_))))
 ·
  have c3 := not_eq_true_ bc3
  have c3 := of_decide_eq_false c3
  have hR : comma X p = (p, false) := if_neg (fun h => by omega)
  refine pS (pG (pM 1 rfl (pL (pT (pZ (pU ?_))))));intro a S
  rw [hR]
  exact r_ret1 S rfl rfl ⟨_, eb', D', E', L', rfl, hst.le 0 (Nat.zero_le _), hr, .inl ⟨rfl, rfl⟩⟩
 have c3 := not_eq_false_ bc3
 have c3 := of_decide_eq_true c3
 refine pK (pT (pS (pG (pM 1 rfl ?_))))
 have hpX := hst.pX
 have hcon := dec.hb.atS _ _ _ _ _ _ _ _ _ _ _ _ _ _ hst (by omega)
 refine pC Tryz.func39 hcon ?_
 rintro e w ⟨eb', D', E', L', rfl, hst', hr'⟩
 refine ⟨_, rfl, ?_⟩
 replace hr := hr.trans hr'
 clear hst hr' hcon; have hst := hst'; clear hst'
 refine pM 1 rfl (pL (pT (pS (pS (pG (pM 1 rfl (pP (p_neq rfl rfl) rfl (pL (pT (zc rfl (fun bc5 => ?_) (fun bc5 => ?_)))))))))))
 ·
  have c5 := bne_iff_ne.1 bc5
  have hR : comma X p = (p, false) := if_neg (fun h => c5 h.2)
  refine pS (pG (pM 1 rfl (pL (pT (pZ (pU ?_))))));intro a S
  rw [hR]
  exact r_ret1 S rfl rfl ⟨_, eb', D', E', L', rfl, hst.le 0 (Nat.zero_le _), hr, .inl ⟨rfl, rfl⟩⟩
 have c5 := bne_eq_false_iff_eq.1 bc5
 have hR0 : comma X p = (p + 1, decide (X.length ≤ p + 1) || sIn 1 (X.getD (p + 1) 0).toNat) := if_pos ⟨by omega, by simpa using c5⟩
 refine pK (pT (pS (pG (pM 1 rfl ?_))))
 have hpX := hst.pX
 have hcon := dec.hb.advS _ _ _ _ _ _ _ _ _ _ _ _ _ _ hst (by omega)
 refine pC Tryz.func42 hcon ?_
 rintro e w ⟨eb', D', E', L', rfl, hst', hr'⟩
 refine ⟨_, rfl, ?_⟩
 replace hr := hr.trans hr'
 clear hst hr' hcon; have hst := hst'; clear hst'
 refine pL (pT (pS (pS (pG (pM 1 rfl ?_)))))
 have hcon := dec.hb.ensS _ _ _ _ _ _ _ _ _ _ _ _ _ _ hst hW
 refine pC Tryz.func22 hcon ?_
 rintro e w ⟨eb', D', E', L', rfl, hst', hr'⟩
 refine ⟨_, rfl, ?_⟩
 replace hr := hr.trans hr'
 clear hst hr' hcon; have hst := hst'; clear hst'
 refine pP (p_not rfl) rfl (pL (pT (zc rfl (fun bc8 => ?_) (fun bc8 => ?_))))
 ·
  have c8 := not_eq_true_ bc8
  have c8 := of_decide_eq_false c8
  have hR : comma X p = (p + 1, true) := hR0.trans (by rw [decide_eq_true (by omega)]; rfl)
  refine pS ?_
  obtain ⟨v, cm, M, hD, hV, heb, H⟩ := id hst
  obtain ⟨rd, A, l, c, r0, mb, mr, hDe, hbuf, hrd, hr0, hvX, hdr, hsz, hpX⟩ := id hD
  rw [hDe] at H
  replace H := dc.open_.1 H
  clear hst hD
  intro a S
  refine d_start (id := 8) [11] 13 (bA 13 0) H rfl rfl rfl (fun w H => ?_)
  revert a;refine qM [0,1,2,5,6] rfl (qA 3 fa58_3 rfl rfl rfl rfl (qE 4 H rfl rfl rfl m0 rfl ag3 rfl (qA 7 fa58_2 rfl rfl rfl rfl (qE 8 H rfl rfl rfl m0 rfl ag3 rfl (qP 9 rfl (p_sub (r := (((p + 1) : Nat) : Int)) rfl rfl ((IntWalk.i64_in _ (by omega)).trans (by omega))) rfl ?_)))));intro a S
  refine d_call (i := 10) (bA 13 2047) S rfl rfl rfl Tryz.func49 rfl rfl (dec.gt.errNew_ wb _ _ _ ⟨#[101, 120, 112, 101, 99, 116, 101, 100, 32, 116, 97, 103, 32, 107, 101, 121, 32, 97, 102, 116, 101, 114, 32, 99, 111, 109, 109, 97, 59, 32, 103, 111, 116, 32, 101, 110, 100, 32, 111, 102, 32, 105, 110, 112, 117, 116]⟩ H) (wanted_none rfl) rfl rfl (by kernel_rfl) rfl ?_
  rintro e w ⟨gn9, rfl, hH⟩
  have hgn9 := hH.lo _ m0
  refine ⟨_, rfl, hH.tail, ?_⟩; clear H; have H := hH; clear hH;clear S a
  obtain ⟨D', L', hst', hr', mgn9⟩ : ∃ D'' L'', ST TY 5 wb _ g X ((p + 1)) ((min ((p + 1) + 1) X.length)) sec sk line eb' K D'' E' L'' ∧ Rel D' E' L' eb' D'' E' L'' eb' ∧ (gn9, Obj.cells #[.string ⟨#[101, 120, 112, 101, 99, 116, 101, 100, 32, 116, 97, 103, 32, 107, 101, 121, 32, 97, 102, 116, 101, 114, 32, 99, 111, 109, 109, 97, 59, 32, 103, 111, 116, 32, 101, 110, 100, 32, 111, 102, 32, 105, 110, 112, 117, 116]⟩] 120 (0, 0)) ∈ L'' := ⟨_, _ :: L', ⟨v, cm, M, ⟨rd, A, l, c, r0, mb, mr, rfl, hbuf, hrd, hr0, hvX, hdr, hsz, hpX⟩, hV, heb, HH.errD H⟩, by rw [hDe]; exact ((Rel.refl _ _ _ _).head rfl).trans (Rel.one _), m0⟩
  clear H hbuf hrd hr0 hvX hdr hsz hV heb hpX hDe; have hcon := hst'; have hst := hst'
  replace hr := hr.trans hr'
  clear hst hr' hcon; have hst := hst'; clear hst'
  have hpX := hst.pX
  have hcon := dec.hb.synS _ _ _ _ _ _ _ _ _ _ _ _ _ _ hst (hB) (p + 1) gn9 (by omega) (by omega) hgn9 ⟨_, _, mgn9⟩
  intro a S
  refine d_call_last (i := 11) (bA 13 4095) S rfl rfl rfl Tryz.func48 rfl rfl hcon (wanted_none rfl) rfl rfl (by kernel_rfl) rfl ?_
  rintro e w ⟨err, eb', D', E', L', rfl, hst', hr', hflt⟩
  refine ⟨_, rfl, ?_⟩;clear S a
  replace hr := hr.trans hr'
  replace mgn9 := hr'.mem mgn9
  clear hst hr' hcon; have hst := hst'; clear hst'
  refine qM [12] rfl (qD (pT (pZ (pU ?_))));intro a S
  rw [hR]
  exact r_ret1 S rfl rfl ⟨_, eb', D', E', L', rfl, hst.le 0 (Nat.zero_le _), hr, .inr ⟨_, rfl, hflt⟩⟩
 have c8 := not_eq_false_ bc8
 have c8 := of_decide_eq_true c8
 refine pK (pT (pS (pS (pG ?_))))
 have hcon := dec.hb.s1 _ _ _ _ _ _ _ _ _ _ _ _ _ _ hst
 refine pC Tryz.func62 hcon ?_
 rintro e w ⟨gs10, eb', D', E', L', rfl, hst', hr', hgs10⟩
 refine ⟨_, rfl, ?_⟩
 replace hr := hr.trans hr'
 clear hst hr' hcon; have hst := hst'; clear hst'
 refine pM 1 rfl ?_
 have hpX := hst.pX
 have hcon := dec.hb.atS _ _ _ _ _ _ _ _ _ _ _ _ _ _ hst (by omega)
 refine pC Tryz.func39 hcon ?_
 rintro e w ⟨eb', D', E', L', rfl, hst', hr'⟩
 refine ⟨_, rfl, ?_⟩
 replace hr := hr.trans hr'
 replace hgs10 := hr'.mem hgs10
 clear hst hr' hcon; have hst := hst'; clear hst'
 have hcon := dec.hb.getS _ _ _ _ _ _ _ _ _ _ _ _ _ _ hst gs10 1 (X.getD (p + 1) 0) (at_by hB.by_ (p + 1)) hgs10
 refine pC Tryz.func52 hcon ?_
 rintro e w ⟨eb', D', E', L', rfl, hst', hr'⟩
 refine ⟨_, rfl, ?_⟩
 replace hr := hr.trans hr'
 replace hgs10 := hr'.mem hgs10
 clear hst hr' hcon; have hst := hst'; clear hst'
 refine pL (pT (zc rfl (fun bc12 => ?_) (fun bc12 => ?_)))
 ·
  have c12 := bc12
  have hR : comma X p = (p + 1, true) := hR0.trans (by rw [bc12]; simp)
  refine pS ?_
  obtain ⟨v, cm, M, hD, hV, heb, H⟩ := id hst
  obtain ⟨rd, A, l, c, r0, mb, mr, hDe, hbuf, hrd, hr0, hvX, hdr, hsz, hpX⟩ := id hD
  rw [hDe] at H
  replace H := dc.open_.1 H
  clear hst hD
  intro a S
  refine d_start (id := 10) [11] 13 (bA 13 0) H rfl rfl rfl (fun w H => ?_)
  revert a;refine qM [0,1,2,5,6] rfl (qA 3 fa58_3 rfl rfl rfl rfl (qE 4 H rfl rfl rfl m0 rfl ag3 rfl (qA 7 fa58_2 rfl rfl rfl rfl (qE 8 H rfl rfl rfl m0 rfl ag3 rfl (qP 9 rfl (p_sub (r := (((p + 1) : Nat) : Int)) rfl rfl ((IntWalk.i64_in _ (by omega)).trans (by omega))) rfl ?_)))));intro a S
  refine d_call (i := 10) (bA 13 2047) S rfl rfl rfl Tryz.func49 rfl rfl (dec.gt.errNew_ wb _ _ _ ⟨#[101, 120, 112, 101, 99, 116, 101, 100, 32, 116, 97, 103, 32, 107, 101, 121, 32, 97, 102, 116, 101, 114, 32, 99, 111, 109, 109, 97, 59, 32, 103, 111, 116, 32, 119, 104, 105, 116, 101, 32, 115, 112, 97, 99, 101, 32, 105, 110, 115, 116, 101, 97, 100]⟩ H) (wanted_none rfl) rfl rfl (by kernel_rfl) rfl ?_
  rintro e w ⟨gn13, rfl, hH⟩
  have hgn13 := hH.lo _ m0
  refine ⟨_, rfl, hH.tail, ?_⟩; clear H; have H := hH; clear hH;clear S a
  obtain ⟨D', L', hst', hr', mgn13⟩ : ∃ D'' L'', ST TY 5 wb _ g X ((p + 1)) ((min ((p + 1) + 1) X.length)) sec sk line eb' K D'' E' L'' ∧ Rel D' E' L' eb' D'' E' L'' eb' ∧ (gn13, Obj.cells #[.string ⟨#[101, 120, 112, 101, 99, 116, 101, 100, 32, 116, 97, 103, 32, 107, 101, 121, 32, 97, 102, 116, 101, 114, 32, 99, 111, 109, 109, 97, 59, 32, 103, 111, 116, 32, 119, 104, 105, 116, 101, 32, 115, 112, 97, 99, 101, 32, 105, 110, 115, 116, 101, 97, 100]⟩] 120 (0, 0)) ∈ L'' := ⟨_, _ :: L', ⟨v, cm, M, ⟨rd, A, l, c, r0, mb, mr, rfl, hbuf, hrd, hr0, hvX, hdr, hsz, hpX⟩, hV, heb, HH.errD H⟩, by rw [hDe]; exact ((Rel.refl _ _ _ _).head rfl).trans (Rel.one _), m0⟩
  clear H hbuf hrd hr0 hvX hdr hsz hV heb hpX hDe; have hcon := hst'; have hst := hst'
  replace hr := hr.trans hr'
  replace hgs10 := hr'.mem hgs10
  clear hst hr' hcon; have hst := hst'; clear hst'
  have hpX := hst.pX
  have hcon := dec.hb.synS _ _ _ _ _ _ _ _ _ _ _ _ _ _ hst (hB) (p + 1) gn13 (by omega) (by omega) hgn13 ⟨_, _, mgn13⟩
  intro a S
  refine d_call_last (i := 11) (bA 13 4095) S rfl rfl rfl Tryz.func48 rfl rfl hcon (wanted_none rfl) rfl rfl (by kernel_rfl) rfl ?_
  rintro e w ⟨err, eb', D', E', L', rfl, hst', hr', hflt⟩
  refine ⟨_, rfl, ?_⟩;clear S a
  replace hr := hr.trans hr'
  replace hgs10 := hr'.mem hgs10
  replace mgn13 := hr'.mem mgn13
  clear hst hr' hcon; have hst := hst'; clear hst'
  refine qM [12] rfl (qD (pT (pZ (pU ?_))));intro a S
  rw [hR]
  exact r_ret1 S rfl rfl ⟨_, eb', D', E', L', rfl, hst.le 0 (Nat.zero_le _), hr, .inr ⟨_, rfl, hflt⟩⟩
 have c12 := bc12
 have hR : comma X p = (p + 1, false) := hR0.trans (by rw [bc12, decide_eq_false (by omega)]; rfl)
 refine pK (pT (pS (pG (pM 1 rfl (pL (pT (pZ ?_)))))));intro a S
 rw [hR]
 exact r_ret1 S rfl rfl ⟨_, eb', D', E', L', rfl, hst.le 0 (Nat.zero_le _), hr, .inl ⟨rfl, rfl⟩⟩
end hc
end Go.Proofs.YtbahngfpadjbhaaGreatDoor.dec
end
