/- A token taken again, from outside. -/
import Derived.Test.YtbahngfpadjbhaaDoorTf
import Derived.Test.YtbahngfpadjbhaaDoorGu
import Derived.Test.YtbahngfpadjbhaaDoorGc
import Derived.Test.YtbahngfpadjbhaaDoorGp
import Derived.Test.YtbahngfpadjbhaaDoorGs
namespace Go.Proofs.YtbahngfpadjbhaaDoor.dec
open Go.RowKit Go.Proofs.HHW Go.Proofs.YtbahngfpadjbhaaDoorW.PrintWords
set_option linter.unusedVariables false
set_option linter.unusedSimpArgs false
namespace gd
theorem ag3 : aggB Tryd.prog 3 = some false := by kernel_rfl
theorem ag4 : aggB Tryd.prog 4 = some false := by kernel_rfl
theorem ag9 : aggB Tryd.prog 9 = some false := by kernel_rfl
theorem fa54_6 (w : World) (g o : Nat) : (Instr.fieldAt 54 (.pointer (some ⟨g, o, none⟩)) 6).run Tryd.prog w = .ok (.pointer (some ⟨g, o + 6, none⟩)) w := by kernel_rfl
theorem fa65_1 (w : World) (g o : Nat) : (Instr.fieldAt 65 (.pointer (some ⟨g, o, none⟩)) 1).run Tryd.prog w = .ok (.pointer (some ⟨g, o + 256, none⟩)) w := by kernel_rfl
theorem sz3 : szB Tryd.prog 3 = some 1 := by kernel_rfl
theorem sz4 : szB Tryd.prog 4 = some 1 := by kernel_rfl
theorem sz9 : szB Tryd.prog 9 = some 1 := by kernel_rfl
theorem zv3 : zvB Tryd.prog 3 = some (.int .i64 0) := by kernel_rfl
theorem zv4 : zvB Tryd.prog 4 = some (.bool false) := by kernel_rfl
theorem zv9 : zvB Tryd.prog 9 = some (.string ⟨#[]⟩) := by kernel_rfl
theorem mi42 : Tryd.prog.underlying 42 = some (.interface (Tryd.prog.methodsAt 42)) := by kernel_rfl
theorem tx_len (k : Nat) (s : ByteArray) : (tx (sIn (sK k)) (tabH (ints (escS k))) false (ints s) 0).length ≤ s.size := by
  unfold tx
  rw [if_neg (by decide)]
  have := (tk_le (sIn (sK k)) (tabH (ints (escS k))) ((ints s).drop 0)).1
  rw [List.length_drop, ints_len] at this
  omega
theorem lnT_le (p : Nat → Bool) (X : List Int) (p0 q line : Nat) : line ≤ lnT p X p0 q line ∧ lnT p X p0 q line ≤ line + X.length := by
  unfold lnT
  have := cnt_le 10 ((X.take q).drop p0)
  rw [List.length_drop, List.length_take] at this
  split <;> omega
theorem doorTake_ (wb w0 : World) (D0 L0 E0 : dc.Bk) (g : Nat) (X : List Int) (p0 v0 : Nat) (cm0 : Bool) (M0 : Nat) (sec : Int) (sk b : Bool) (line : Nat) (er : Value) (k : Nat) (hk : k < 5) (el : List Int) (A0 : Option Addr) (c0 : Nat) (hD0 : dc.Dec TY wb g X p0 v0 cm0 M0 sec sk (.slice A0 el.length c0) line er D0) (hOw0 : OwnB 5 (.slice A0 el.length c0) el E0) (H : HH wb.heap.size wb w0 (D0 ++ (E0 ++ L0))) (hXb : ∀ x ∈ X, 0 ≤ x ∧ x < 256) (hel : el.length ≤ 100000000) (hT : Lib.Utf8Tabs 0 1 wb) (hl : line ≤ 100000000000) (hXl : X.length ≤ 900000) (ae : Addr) (hE : wb.cell? ⟨2, 0, none⟩ = some (.iface 89 (.pointer (some ae)))) (hlt : 2 < wb.heap.size) : Calls Tryd.prog 18 #[.pointer (some ⟨g, 0, none⟩), .int .i64 (k : Int), .bool b] w0 fun e w' => ∃ (A' : Option Addr) (c' : Nat) (err : Value) (Ae : Option Addr) (ce : Nat) (ys : List Int) (v' : Nat) (cm' : Bool) (M' : Nat) (D' E' G : dc.Bk) (sec' : Int), e = .returned (.tuple #[.slice A' (tx (sIn (sK k)) (tabH (ints (escS k))) b X p0).length c', err]) ∧ dc.Dec TY wb g X (p0 + (tk (sIn (sK k)) (tabH (ints (escS k))) (X.drop p0)).2) v' cm' M' sec' b (.slice Ae ys.length ce) (lnT (sIn (sK k)) X p0 (p0 + (tk (sIn (sK k)) (tabH (ints (escS k))) (X.drop p0)).2) line) er D' ∧ HH wb.heap.size wb w' (D' ++ (G ++ (E' ++ L0))) ∧ HeldT D' E' (.slice Ae ys.length ce) A' (tx (sIn (sK k)) (tabH (ints (escS k))) b X p0) ∧ (tx (sIn (sK k)) (tabH (ints (escS k))) b X p0).length ≤ c' ∧ FaultT (tx (sIn (sK k)) (tabH (ints (escS k))) b X p0) err sec sec' (lnT (sIn (sK k)) X p0 (p0 + (tk (sIn (sK k)) (tabH (ints (escS k))) (X.drop p0)).2) line : Int) X p0 (p0 + (tk (sIn (sK k)) (tabH (ints (escS k))) (X.drop p0)).2) 88 86 G := by
  obtain ⟨rd, A, l, c, r0, mb, mr, rfl, hbuf, hrd, hr0, hvX, hdr, hsz, hpX⟩ := id hD0
  replace H := dc.open_.1 H
  refine c_enter (args := [.pointer (some ⟨g, 0, none⟩), .int .i64 (k : Int), .bool b]) (k := 31) Tryd.func18 rfl rfl rfl (fun a S => ?_)
  refine wp_seq ?_
  refine c_region ?_
  refine l_pure S (p_assign rfl) rfl rfl rfl ?_; clear S a; intro a S
  refine l_pure S (p_assign rfl) rfl rfl rfl ?_; clear S a; intro a S
  refine l_nil ?_
  refine e_then ?_
  refine wp_seq ?_
  refine c_region ?_
  refine l_pure S (p_move rfl) rfl rfl rfl ?_; clear S a; intro a S
  refine l_pure S (p_move rfl) rfl rfl rfl ?_; clear S a; intro a S
  refine l_pure S (p_nilCheck rfl) rfl rfl rfl ?_; clear S a; intro a S
  refine l_pure S (p_fieldAddr rfl (fun w => fa54_6 w _ _)) rfl rfl rfl ?_; clear S a; intro a S
  refine l_store S H rfl rfl rfl .here (by first | decide | simp [Value.cells]) (fun w u hc hz => st1 sz4 rfl hc hz) rfl rfl ?_; clear S a H; intro w a H S
  refine l_nil ?_
  refine e_then ?_
  refine wp_seq ?_
  refine c_region ?_
  refine l_lit [(.const (.int .i64 5)), (.const (.int .i64 2)), (.const (.int .i64 6)), (.const (.int .i64 7)), (.const (.int .i64 8))] S H rfl rfl Tryd.underlying22 sz3 zv3 rfl rfl (by simp [Value.cells]) rfl rfl rfl ?_; clear S a H; intro g2 w a H S
  refine l_pure S (p_move rfl) rfl rfl rfl ?_; clear S a; intro a S
  refine l_pure S (p_indexAddr rfl rfl (fun w => ia_slice Tryd.underlying22 sz3 (by omega) (by show (k : Int) < ((5 : Nat) : Int); omega))) rfl rfl rfl ?_; clear S a; intro a S
  refine l_read S H (r_load (v := .int .i64 (sK k : Int)) rfl List.mem_cons_self (by rw [show 0 + ((k : Nat) : Int).toNat * 1 = k by omega]; exact sK_at hk) (fun w hc => ld1 ag3 hc)) rfl rfl rfl ?_; clear S a; intro a S
  refine l_pure S (p_assign rfl) rfl rfl rfl ?_; clear S a; intro a S
  refine l_nil ?_
  refine e_then ?_
  refine wp_seq ?_
  refine c_region ?_
  refine l_pure S (p_move rfl) rfl rfl rfl ?_; clear S a; intro a S
  refine l_pure S (p_move rfl) rfl rfl rfl ?_; clear S a; intro a S
  have hcon := st.door_set wb _ _ _ (sK k) (sK_lt k) H
  refine l_call S rfl rfl Tryd.func26 rfl rfl (hcon) rfl rfl rfl ?_
  rintro e w ⟨gs, rfl, hH⟩
  refine ⟨_, rfl, ?_⟩; clear S a; intro a S
  clear H hcon; have H := hH; clear hH
  refine l_pure S (p_move rfl) rfl rfl rfl ?_; clear S a; intro a S
  have hcon := gb.escaper_ wb _ _ _ k hk H
  refine l_call S rfl rfl Tryd.func23 rfl rfl (hcon) rfl rfl rfl ?_
  rintro e w ⟨ge, rfl, hH⟩
  refine ⟨_, rfl, ?_⟩; clear S a; intro a S
  clear H hcon; have H := hH; clear hH
  refine l_pure S (p_nilCheck rfl) rfl rfl rfl ?_; clear S a; intro a S
  refine l_pure S (p_fieldAddr rfl (fun w => fa65_1 w _ _)) rfl rfl rfl ?_; clear S a; intro a S
  have hD1 : dc.Dec TY wb g X p0 v0 cm0 M0 sec b (.slice A0 el.length c0) line er ((g, .cells #[rd, .slice A l.length c, .int .i64 (r0 : Int), .int .i64 ((r0 + p0 : Nat) : Int), .bool cm0, .int .u8 sec, .bool b, .slice A0 el.length c0, .int .i64 (line : Int), er] 54 (0, 0)) :: (mb ++ mr)) := ⟨rd, A, l, c, r0, mb, mr, rfl, hbuf, hrd, hr0, hvX, hdr, hsz, hpX⟩
  have H1 := HH.back3 (D := (g, _) :: (mb ++ mr)) (E := E0) (H.cast (by simp only [List.cons_append, List.append_assoc]; rfl))
  have hcon := gu.takeEsc_ wb _ _ _ E0 g gs ge X p0 v0 cm0 M0 sec b line er (sIn (sK k)) (tabH (ints (escS k))) _ el A0 c0 hD1 hOw0 H1 (List.mem_cons_of_mem _ List.mem_cons_self) List.mem_cons_self (fun j hj => escB_h _ _ _ hj) (fun j => (tab_lt k hk j).2) hXb hel hT hl hXl ae hE hlt
  refine l_call S rfl rfl Tryd.func25 rfl rfl (hcon) rfl rfl rfl ?_
  rintro e w ⟨A', c', err, Ae, ce, ys, v', cm', M', D', E', G, sec', rfl, hD', hOw', _, hH, _, _, hv', hheld, hlc', hft⟩
  refine ⟨_, rfl, ?_⟩; clear S a; intro a S
  clear H H1 hcon; have H := hH; clear hH
  refine l_pure S (p_move rfl) rfl rfl rfl ?_; clear S a; intro a S
  refine l_pure S (p_extract rfl rfl) rfl rfl rfl ?_; clear S a; intro a S
  refine l_pure S (p_extract rfl rfl) rfl rfl rfl ?_; clear S a; intro a S
  refine l_pure S (p_extract rfl rfl) rfl rfl rfl ?_; clear S a; intro a S
  refine l_pure S (p_assign rfl) rfl rfl rfl ?_; clear S a; intro a S
  refine l_pure S (p_assign rfl) rfl rfl rfl ?_; clear S a; intro a S
  refine l_pure S (p_assign rfl) rfl rfl rfl ?_; clear S a; intro a S
  refine l_nil ?_
  refine e_then ?_
  refine wp_seq ?_
  refine c_region ?_
  refine l_pure S (p_move rfl) rfl rfl rfl ?_; clear S a; intro a S
  refine l_pure S (p_move rfl) rfl rfl rfl ?_; clear S a; intro a S
  refine l_pure S (p_assign rfl) rfl rfl rfl ?_; clear S a; intro a S
  refine l_pure S (p_assign rfl) rfl rfl rfl ?_; clear S a; intro a S
  refine l_nil ?_
  refine e_then ?_
  refine wp_ret ?_
  exact r_ret2 S rfl rfl rfl ⟨A', c', err, Ae, ce, ys, v', cm', M', D', E', G, sec', rfl, hD', H.sub (List.Sublist.append_left (List.Sublist.append_left (List.Sublist.append_left ((List.sublist_cons_self _ _).trans ((List.sublist_cons_self _ _).trans (List.sublist_cons_self _ _))) _) _) _), hheld, hlc', hft⟩
theorem idle17 (p0 : Addr) (p1 : Addr) (p2 : Addr) (p3 : Addr) (p4 : Addr) (w : World) :
    CallsD Tryd.prog 17 #[.pointer (some p0), .pointer (some p1), .pointer (some p2), .pointer (some p3), .pointer (some p4)] .returning w fun e u' w' => e = .returned (.tuple #[]) ∧ u' = .returning ∧ w' = w := by
  refine callsD_of_wpS Tryd.func17 rfl fun c₀ cs hu => ?_
  apply wpS_seq
  apply wpS_region
  simp [wpOpsS, go_sem, recoverD, hu, Tryd.ntmps17, Exit.thenS]
  refine wpS_cond (t := false) (by simp [Act.eval, Array.replicate]) ?_
  simp only [Bool.false_eq_true, if_false]
  refine wpS_of_wp (wp_skip ?_)
  cases c₀
  simp_all [bodyPostS, results, Tryd.results17]
theorem impl_take (w0 : World) (k : Nat) (hk : k < 5) (s : ByteArray) (hs : s.size ≤ 900000) (hT : Lib.Utf8Tabs 0 1 w0) (ae : Addr) (hE : w0.cell? ⟨2, 0, none⟩ = some (.iface 89 (.pointer (some ae)))) (hlt : 2 < w0.heap.size) : Calls Tryd.prog 10 #[.int .i64 (k : Int), .string s, .slice none 0 0, .bool false] w0 fun e w' => e = .returned (.tuple #[.string (strOfNums (tx (sIn (sK k)) (tabH (ints (escS k))) false (ints s) 0)), .int .i64 ((0 + (tk (sIn (sK k)) (tabH (ints (escS k))) ((ints s).drop 0)).2) : Int), .int .i64 ((lnT (sIn (sK k)) (ints s) 0 (0 + (tk (sIn (sK k)) (tabH (ints (escS k))) ((ints s).drop 0)).2) 1 : Nat) - 1 : Int), .bool (!up.V (strOfNums (tx (sIn (sK k)) (tabH (ints (escS k))) false (ints s) 0)) 0), .bool true]) ∧ Below w0.heap.size w0 w' := by
  have H := HH.start w0
  refine c_enter_d (args := [.int .i64 (k : Int), .string s, .slice none 0 0, .bool false]) (k := 37) Tryd.func10 rfl rfl rfl (fun a S => ?_)
  refine wp_seq ?_
  refine c_region ?_
  refine l_alloc (cs := #[.string ⟨#[]⟩]) S H rfl (fun w => al zv9) rfl rfl rfl ?_; clear S a H; intro g1 w a H S
  refine l_alloc (cs := #[.int .i64 0]) S H rfl (fun w => al zv3) rfl rfl rfl ?_; clear S a H; intro g2 w a H S
  refine l_alloc (cs := #[.int .i64 0]) S H rfl (fun w => al zv3) rfl rfl rfl ?_; clear S a H; intro g3 w a H S
  refine l_alloc (cs := #[.bool false]) S H rfl (fun w => al zv4) rfl rfl rfl ?_; clear S a H; intro g4 w a H S
  refine l_alloc (cs := #[.bool false]) S H rfl (fun w => al zv4) rfl rfl rfl ?_; clear S a H; intro g5 w a H S
  refine l_nil ?_
  refine e_then ?_
  refine wp_seq ?_
  refine c_region ?_
  refine l_pure S (p_func rfl rfl) rfl rfl rfl ?_; clear S a; intro a S
  refine l_defer (xs := []) (us := []) (vs := []) S rfl rfl rfl rfl rfl ?_; clear S a; intro a S
  refine l_nil ?_
  refine e_then ?_
  refine wp_seq ?_
  refine c_region ?_
  refine l_pure S (p_move rfl) rfl rfl rfl ?_; clear S a; intro a S
  refine l_pure S (p_move rfl) rfl rfl rfl ?_; clear S a; intro a S
  have hcon := mk.decoder_ w0 _ _ s none [] 0 H ⟨rfl, by simp, fun h => absurd h (by simp)⟩ (Nat.le_refl _) (by simp) (by omega)
  refine l_call S rfl rfl Tryd.func12 rfl rfl (hcon) rfl rfl rfl ?_
  rintro e w ⟨g, eb, me, D, v, cm, M, rfl, hD, hme, hH⟩
  refine ⟨_, rfl, ?_⟩; clear S a; intro a S
  clear H hcon; have H := hH; clear hH
  obtain ⟨A0, c0, rfl, _⟩ := Own.slice hme
  refine l_pure S (p_assign rfl) rfl rfl rfl ?_; clear S a; intro a S
  refine l_nil ?_
  refine e_then ?_
  refine wp_seq ?_
  refine c_region ?_
  refine l_pure S (p_move rfl) rfl rfl rfl ?_; clear S a; intro a S
  refine l_pure S (p_move rfl) rfl rfl rfl ?_; clear S a; intro a S
  refine l_pure S (p_move rfl) rfl rfl rfl ?_; clear S a; intro a S
  have hcon := doorTake_ w0 _ _ _ me g (ints s) 0 v cm M 5 false false 1 .nilIface k hk [] A0 c0 hD hme H (by have := ints_by s 0; rwa [List.drop_zero] at this) (by simp) hT (by omega) (by rw [ints_len]; omega) ae hE hlt
  refine l_call S rfl rfl Tryd.func18 rfl rfl hcon rfl rfl rfl ?_
  rintro e w ⟨A', c', err, Ae, ce, ys, v', cm', M', D', E', G, sec', rfl, hD', hH, hheld, hlc', hft⟩
  refine ⟨_, rfl, ?_⟩; clear S a; intro a S
  clear H hcon; have H := hH; clear hH
  rcases hft with ⟨hv1, rfl, rfl⟩ | ⟨hv1, rfl, gf, et, ev, rfl, _⟩
  · skip
    refine l_pure S (p_move rfl) rfl rfl rfl ?_; clear S a; intro a S
    refine l_pure S (p_extract rfl rfl) rfl rfl rfl ?_; clear S a; intro a S
    refine l_pure S (p_extract rfl rfl) rfl rfl rfl ?_; clear S a; intro a S
    refine l_pure S (p_assign rfl) rfl rfl rfl ?_; clear S a; intro a S
    refine l_pure S (p_assign rfl) rfl rfl rfl ?_; clear S a; intro a S
    refine l_nil ?_
    refine e_then ?_
    refine wp_seq ?_
    refine c_region ?_
    refine l_pure S (p_move rfl) rfl rfl rfl ?_; clear S a; intro a S
    have hcon := place_ w0 _ _ _ g (ints s) (0 + (tk (sIn (sK k)) (tabH (ints (escS k))) ((ints s).drop 0)).2) v' cm' M' _ false _ (lnT (sIn (sK k)) (ints s) 0 (0 + (tk (sIn (sK k)) (tabH (ints (escS k))) ((ints s).drop 0)).2) 1) .nilIface hD' H
    refine l_call S rfl rfl Tryd.func14 rfl rfl (hcon) rfl rfl rfl ?_
    rintro e w ⟨rfl, hH⟩
    refine ⟨_, rfl, ?_⟩; clear S a; intro a S
    clear H hcon; have H := hH; clear hH
    refine l_pure S (p_move rfl) rfl rfl rfl ?_; clear S a; intro a S
    refine l_pure S (p_extract rfl rfl) rfl rfl rfl ?_; clear S a; intro a S
    refine l_pure S (p_extract rfl rfl) rfl rfl rfl ?_; clear S a; intro a S
    refine l_pure S (p_assign rfl) rfl rfl rfl ?_; clear S a; intro a S
    refine l_pure S (p_assign rfl) rfl rfl rfl ?_; clear S a; intro a S
    refine l_nil ?_
    refine e_then ?_
    refine wp_seq ?_
    refine d_start (id := 5) [7, 8, 9, 10, 11] 12 #[false, false, false, false, false, false, false, false, false, false, false, false] H rfl rfl rfl (fun w H => ?_)
    refine d_pure (i := 0) #[true, false, false, false, false, false, false, false, false, false, false, false] S rfl (p_move rfl) (wanted_none rfl) rfl rfl (by kernel_rfl) (hq_d (fun t => by simp [results, Tryd.results10, Array.getElem?_setIfInBounds])) ?_; clear S a; intro a S
    refine d_read (i := 1) #[true, true, false, false, false, false, false, false, false, false, false, false] S H rfl (r_str rfl Tryd.underlying32 Tryd.underlying5 Tryd.underlying9 (fun w H => HeldT.C hheld H (by have := tx_len k s; omega))) (wanted_none rfl) rfl rfl (by kernel_rfl) (hq_d (fun t => by simp [results, Tryd.results10, Array.getElem?_setIfInBounds])) ?_; clear S a; intro a S
    refine d_pure (i := 2) #[true, true, true, false, false, false, false, false, false, false, false, false] S rfl (p_move rfl) (wanted_none rfl) rfl rfl (by kernel_rfl) (hq_d (fun t => by simp [results, Tryd.results10, Array.getElem?_setIfInBounds])) ?_; clear S a; intro a S
    refine d_pure (i := 3) #[true, true, true, true, false, false, false, false, false, false, false, false] S rfl (p_move rfl) (wanted_none rfl) rfl rfl (by kernel_rfl) (hq_d (fun t => by simp [results, Tryd.results10, Array.getElem?_setIfInBounds])) ?_; clear S a; intro a S
    refine d_pure (i := 4) #[true, true, true, true, true, false, false, false, false, false, false, false] S rfl (p_sub (r := _) rfl rfl (IntWalk.i64_in _ (by have := lnT_le (sIn (sK k)) (ints s) 0 (0 + (tk (sIn (sK k)) (tabH (ints (escS k))) ((ints s).drop 0)).2) 1; rw [ints_len] at this; omega))) (wanted_none rfl) rfl rfl (by kernel_rfl) (hq_d (fun t => by simp [results, Tryd.results10, Array.getElem?_setIfInBounds])) ?_; clear S a; intro a S
    refine d_pure (i := 5) #[true, true, true, true, true, true, false, false, false, false, false, false] S rfl (p_move rfl) (wanted_none rfl) rfl rfl (by kernel_rfl) (hq_d (fun t => by simp [results, Tryd.results10, Array.getElem?_setIfInBounds])) ?_; clear S a; intro a S
    refine d_pure (i := 6) #[true, true, true, true, true, true, true, false, false, false, false, false] S rfl (p_nilnilN mi42 rfl) (wanted_none rfl) rfl rfl (by kernel_rfl) (hq_d (fun t => by simp [results, Tryd.results10, Array.getElem?_setIfInBounds])) ?_; clear S a; intro a S
    refine d_store (i := 7) #[true, true, true, true, true, true, true, true, false, false, false, false] S H rfl rfl rfl rfl (Upd.skip D' (Upd.skip G (Upd.skip E' (.there (.there (.there (.there .here))))))) (by first | decide | simp [Value.cells]) (fun w u hc hz => st1 sz9 rfl hc hz) (wanted_none rfl) rfl (by kernel_rfl) rfl ?_; clear S a H; intro w a H S
    refine d_store (i := 8) #[true, true, true, true, true, true, true, true, true, false, false, false] S H rfl rfl rfl rfl (Upd.skip D' (Upd.skip G (Upd.skip E' (.there (.there (.there .here)))))) (by first | decide | simp [Value.cells]) (fun w u hc hz => st1 sz3 rfl hc hz) (wanted_none rfl) rfl (by kernel_rfl) rfl ?_; clear S a H; intro w a H S
    refine d_store (i := 9) #[true, true, true, true, true, true, true, true, true, true, false, false] S H rfl rfl rfl rfl (Upd.skip D' (Upd.skip G (Upd.skip E' (.there (.there .here))))) (by first | decide | simp [Value.cells]) (fun w u hc hz => st1 sz3 rfl hc hz) (wanted_none rfl) rfl (by kernel_rfl) rfl ?_; clear S a H; intro w a H S
    refine d_store (i := 10) #[true, true, true, true, true, true, true, true, true, true, true, false] S H rfl rfl rfl rfl (Upd.skip D' (Upd.skip G (Upd.skip E' (.there .here)))) (by first | decide | simp [Value.cells]) (fun w u hc hz => st1 sz4 rfl hc hz) (wanted_none rfl) rfl (by kernel_rfl) rfl ?_; clear S a H; intro w a H S
    refine d_store (i := 11) #[true, true, true, true, true, true, true, true, true, true, true, true] S H rfl rfl rfl rfl (Upd.skip D' (Upd.skip G (Upd.skip E' .here))) (by first | decide | simp [Value.cells]) (fun w u hc hz => st1 sz4 rfl hc hz) (wanted_none rfl) rfl (by kernel_rfl) rfl ?_; clear S a H; intro w a H S
    refine d_done (by kernel_rfl) ?_
    refine e_then ?_
    refine wp_ret ?_
    exact r_door (v := .tuple #[.string (strOfNums (tx (sIn (sK k)) (tabH (ints (escS k))) false (ints s) 0)), .int .i64 ((0 + (tk (sIn (sK k)) (tabH (ints (escS k))) ((ints s).drop 0)).2) : Int), .int .i64 ((lnT (sIn (sK k)) (ints s) 0 (0 + (tk (sIn (sK k)) (tabH (ints (escS k))) ((ints s).drop 0)).2) 1 : Nat) - 1 : Int), .bool false, .bool true]) S (idle17 _ _ _ _ _) (invokes Tryd.func17 rfl rfl) (res_c5 rfl rfl rfl rfl rfl rfl (lv ag9 H (List.mem_append_right _ (List.mem_append_right _ (List.mem_append_right _ (List.mem_cons_of_mem _ (List.mem_cons_of_mem _ (List.mem_cons_of_mem _ (List.mem_cons_of_mem _ List.mem_cons_self))))))) rfl) (lv ag3 H (List.mem_append_right _ (List.mem_append_right _ (List.mem_append_right _ (List.mem_cons_of_mem _ (List.mem_cons_of_mem _ (List.mem_cons_of_mem _ List.mem_cons_self)))))) rfl) (lv ag3 H (List.mem_append_right _ (List.mem_append_right _ (List.mem_append_right _ (List.mem_cons_of_mem _ (List.mem_cons_of_mem _ List.mem_cons_self))))) rfl) (lv ag4 H (List.mem_append_right _ (List.mem_append_right _ (List.mem_append_right _ (List.mem_cons_of_mem _ List.mem_cons_self)))) rfl) (lv ag4 H (List.mem_append_right _ (List.mem_append_right _ (List.mem_append_right _ List.mem_cons_self))) rfl)) ⟨by rw [hv1]; rfl, H.below⟩
  · skip
    refine l_pure S (p_move rfl) rfl rfl rfl ?_; clear S a; intro a S
    refine l_pure S (p_extract rfl rfl) rfl rfl rfl ?_; clear S a; intro a S
    refine l_pure S (p_extract rfl rfl) rfl rfl rfl ?_; clear S a; intro a S
    refine l_pure S (p_assign rfl) rfl rfl rfl ?_; clear S a; intro a S
    refine l_pure S (p_assign rfl) rfl rfl rfl ?_; clear S a; intro a S
    refine l_nil ?_
    refine e_then ?_
    refine wp_seq ?_
    refine c_region ?_
    refine l_pure S (p_move rfl) rfl rfl rfl ?_; clear S a; intro a S
    have hcon := place_ w0 _ _ _ g (ints s) (0 + (tk (sIn (sK k)) (tabH (ints (escS k))) ((ints s).drop 0)).2) v' cm' M' _ false _ (lnT (sIn (sK k)) (ints s) 0 (0 + (tk (sIn (sK k)) (tabH (ints (escS k))) ((ints s).drop 0)).2) 1) .nilIface hD' H
    refine l_call S rfl rfl Tryd.func14 rfl rfl (hcon) rfl rfl rfl ?_
    rintro e w ⟨rfl, hH⟩
    refine ⟨_, rfl, ?_⟩; clear S a; intro a S
    clear H hcon; have H := hH; clear hH
    refine l_pure S (p_move rfl) rfl rfl rfl ?_; clear S a; intro a S
    refine l_pure S (p_extract rfl rfl) rfl rfl rfl ?_; clear S a; intro a S
    refine l_pure S (p_extract rfl rfl) rfl rfl rfl ?_; clear S a; intro a S
    refine l_pure S (p_assign rfl) rfl rfl rfl ?_; clear S a; intro a S
    refine l_pure S (p_assign rfl) rfl rfl rfl ?_; clear S a; intro a S
    refine l_nil ?_
    refine e_then ?_
    refine wp_seq ?_
    refine d_start (id := 5) [7, 8, 9, 10, 11] 12 #[false, false, false, false, false, false, false, false, false, false, false, false] H rfl rfl rfl (fun w H => ?_)
    refine d_pure (i := 0) #[true, false, false, false, false, false, false, false, false, false, false, false] S rfl (p_move rfl) (wanted_none rfl) rfl rfl (by kernel_rfl) (hq_d (fun t => by simp [results, Tryd.results10, Array.getElem?_setIfInBounds])) ?_; clear S a; intro a S
    refine d_read (i := 1) #[true, true, false, false, false, false, false, false, false, false, false, false] S H rfl (r_str rfl Tryd.underlying32 Tryd.underlying5 Tryd.underlying9 (fun w H => HeldT.C hheld H (by have := tx_len k s; omega))) (wanted_none rfl) rfl rfl (by kernel_rfl) (hq_d (fun t => by simp [results, Tryd.results10, Array.getElem?_setIfInBounds])) ?_; clear S a; intro a S
    refine d_pure (i := 2) #[true, true, true, false, false, false, false, false, false, false, false, false] S rfl (p_move rfl) (wanted_none rfl) rfl rfl (by kernel_rfl) (hq_d (fun t => by simp [results, Tryd.results10, Array.getElem?_setIfInBounds])) ?_; clear S a; intro a S
    refine d_pure (i := 3) #[true, true, true, true, false, false, false, false, false, false, false, false] S rfl (p_move rfl) (wanted_none rfl) rfl rfl (by kernel_rfl) (hq_d (fun t => by simp [results, Tryd.results10, Array.getElem?_setIfInBounds])) ?_; clear S a; intro a S
    refine d_pure (i := 4) #[true, true, true, true, true, false, false, false, false, false, false, false] S rfl (p_sub (r := _) rfl rfl (IntWalk.i64_in _ (by have := lnT_le (sIn (sK k)) (ints s) 0 (0 + (tk (sIn (sK k)) (tabH (ints (escS k))) ((ints s).drop 0)).2) 1; rw [ints_len] at this; omega))) (wanted_none rfl) rfl rfl (by kernel_rfl) (hq_d (fun t => by simp [results, Tryd.results10, Array.getElem?_setIfInBounds])) ?_; clear S a; intro a S
    refine d_pure (i := 5) #[true, true, true, true, true, true, false, false, false, false, false, false] S rfl (p_move rfl) (wanted_none rfl) rfl rfl (by kernel_rfl) (hq_d (fun t => by simp [results, Tryd.results10, Array.getElem?_setIfInBounds])) ?_; clear S a; intro a S
    refine d_pure (i := 6) #[true, true, true, true, true, true, true, false, false, false, false, false] S rfl (p_ifnilN mi42 rfl rfl) (wanted_none rfl) rfl rfl (by kernel_rfl) (hq_d (fun t => by simp [results, Tryd.results10, Array.getElem?_setIfInBounds])) ?_; clear S a; intro a S
    refine d_store (i := 7) #[true, true, true, true, true, true, true, true, false, false, false, false] S H rfl rfl rfl rfl (Upd.skip D' (Upd.skip G (Upd.skip E' (.there (.there (.there (.there .here))))))) (by first | decide | simp [Value.cells]) (fun w u hc hz => st1 sz9 rfl hc hz) (wanted_none rfl) rfl (by kernel_rfl) rfl ?_; clear S a H; intro w a H S
    refine d_store (i := 8) #[true, true, true, true, true, true, true, true, true, false, false, false] S H rfl rfl rfl rfl (Upd.skip D' (Upd.skip G (Upd.skip E' (.there (.there (.there .here)))))) (by first | decide | simp [Value.cells]) (fun w u hc hz => st1 sz3 rfl hc hz) (wanted_none rfl) rfl (by kernel_rfl) rfl ?_; clear S a H; intro w a H S
    refine d_store (i := 9) #[true, true, true, true, true, true, true, true, true, true, false, false] S H rfl rfl rfl rfl (Upd.skip D' (Upd.skip G (Upd.skip E' (.there (.there .here))))) (by first | decide | simp [Value.cells]) (fun w u hc hz => st1 sz3 rfl hc hz) (wanted_none rfl) rfl (by kernel_rfl) rfl ?_; clear S a H; intro w a H S
    refine d_store (i := 10) #[true, true, true, true, true, true, true, true, true, true, true, false] S H rfl rfl rfl rfl (Upd.skip D' (Upd.skip G (Upd.skip E' (.there .here)))) (by first | decide | simp [Value.cells]) (fun w u hc hz => st1 sz4 rfl hc hz) (wanted_none rfl) rfl (by kernel_rfl) rfl ?_; clear S a H; intro w a H S
    refine d_store (i := 11) #[true, true, true, true, true, true, true, true, true, true, true, true] S H rfl rfl rfl rfl (Upd.skip D' (Upd.skip G (Upd.skip E' .here))) (by first | decide | simp [Value.cells]) (fun w u hc hz => st1 sz4 rfl hc hz) (wanted_none rfl) rfl (by kernel_rfl) rfl ?_; clear S a H; intro w a H S
    refine d_done (by kernel_rfl) ?_
    refine e_then ?_
    refine wp_ret ?_
    exact r_door (v := .tuple #[.string (strOfNums (tx (sIn (sK k)) (tabH (ints (escS k))) false (ints s) 0)), .int .i64 ((0 + (tk (sIn (sK k)) (tabH (ints (escS k))) ((ints s).drop 0)).2) : Int), .int .i64 ((lnT (sIn (sK k)) (ints s) 0 (0 + (tk (sIn (sK k)) (tabH (ints (escS k))) ((ints s).drop 0)).2) 1 : Nat) - 1 : Int), .bool true, .bool true]) S (idle17 _ _ _ _ _) (invokes Tryd.func17 rfl rfl) (res_c5 rfl rfl rfl rfl rfl rfl (lv ag9 H (List.mem_append_right _ (List.mem_append_right _ (List.mem_append_right _ (List.mem_cons_of_mem _ (List.mem_cons_of_mem _ (List.mem_cons_of_mem _ (List.mem_cons_of_mem _ List.mem_cons_self))))))) rfl) (lv ag3 H (List.mem_append_right _ (List.mem_append_right _ (List.mem_append_right _ (List.mem_cons_of_mem _ (List.mem_cons_of_mem _ (List.mem_cons_of_mem _ List.mem_cons_self)))))) rfl) (lv ag3 H (List.mem_append_right _ (List.mem_append_right _ (List.mem_append_right _ (List.mem_cons_of_mem _ (List.mem_cons_of_mem _ List.mem_cons_self))))) rfl) (lv ag4 H (List.mem_append_right _ (List.mem_append_right _ (List.mem_append_right _ (List.mem_cons_of_mem _ List.mem_cons_self)))) rfl) (lv ag4 H (List.mem_append_right _ (List.mem_append_right _ (List.mem_append_right _ List.mem_cons_self))) rfl)) ⟨by rw [hv1]; rfl, H.below⟩
end gd
end Go.Proofs.YtbahngfpadjbhaaDoor.dec
