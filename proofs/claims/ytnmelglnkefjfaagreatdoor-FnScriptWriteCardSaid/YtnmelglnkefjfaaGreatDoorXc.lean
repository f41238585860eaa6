/- FnScriptWrite: ScriptWrite. -/
import Derived.Test.YtnmelglnkefjfaaGreatDoorXb
namespace Go.Proofs.YtnmelglnkefjfaaGreatDoor.wr
open Go.RowKit Go.Proofs.HHW Go.Proofs.YtnmelglnkefjfaaGreatDoorW.PrintWords
set_option linter.unusedVariables false
set_option linter.unusedSimpArgs false
namespace sw
theorem ag3 : aggB Tryz.prog 3 = some false := by kernel_rfl
theorem ag9 : aggB Tryz.prog 9 = some false := by kernel_rfl
theorem sz3 : szB Tryz.prog 3 = some 1 := by kernel_rfl
theorem sz9 : szB Tryz.prog 9 = some 1 := by kernel_rfl
theorem zv3 : zvB Tryz.prog 3 = some (.int .i64 0) := by kernel_rfl
theorem zv43 : zvB Tryz.prog 43 = some (.agg #[.slice none 0 0, .int .i64 0, .int .i8 0]) := by kernel_rfl
theorem zv9 : zvB Tryz.prog 9 = some (.string ⟨#[]⟩) := by kernel_rfl
theorem in9 : (Tryz.prog.info? 9).map (fun i => (i.zero, i.size, i.bytes)) = some (some (.string ⟨#[]⟩), 1, 16) := by kernel_rfl
theorem bld75_0_1_2_5 (x0_0 : ByteArray) (x0_1 : ByteArray) (x1_0A : Option Addr) (x1_0n x1_0c : Nat) (x2_0A : Option Addr) (x2_0n x2_0c : Nat) (x3_0 : Bool) : Tryz.prog.built 75 [(0, (.agg #[.string x0_0, .string x0_1])), (1, (.slice x1_0A x1_0n x1_0c)), (2, (.slice x2_0A x2_0n x2_0c)), (5, (.bool x3_0))] = some #[.string x0_0, .string x0_1, .slice x1_0A x1_0n x1_0c, .slice x2_0A x2_0n x2_0c, .nilIface, .nilIface, .bool x3_0] := by kernel_rfl
theorem mi45 : Tryz.prog.underlying 45 = some (.interface (Tryz.prog.methodsAt 45)) := by kernel_rfl
theorem mk47 (w : World) (p : Option Addr) : (Instr.makeInterface 47 (.pointer p)).run Tryz.prog w = .ok (.iface 47 (.pointer p)) w := by kernel_rfl
open ev

/-- The texts of the command that runs a script. -/
def TL (wh : Bool) (sc : ByteArray) (ks az : List ByteArray) : List ByteArray := (if wh then [EVT, sc] else [EVSHA, strOfNums (px.hexB (sha.sum (ints sc)))]) ++ (NK ks.length :: (ks ++ az))
theorem TL_t (sc : ByteArray) (ks az : List ByteArray) (l : List Int) : l ++ px.hdr 42 (3 + ks.length + az.length) ++ px.blob 36 EVT ++ px.blob 36 sc ++ px.blob 36 (NK ks.length) ++ px.blobs ks ++ px.blobs az = l ++ px.texts (TL true sc ks az) := by
  have e : (TL true sc ks az).length = 3 + ks.length + az.length := by unfold TL; simp; omega
  unfold px.texts
  rw [e]
  unfold TL
  simp only [if_true, px.blobs_app, px.blobs_cons, List.append_assoc, show px.blobs [] = [] from rfl, List.nil_append, List.append_nil]
theorem TL_f (sc : ByteArray) (ks az : List ByteArray) (l : List Int) : l ++ px.hdr 42 (3 + ks.length + az.length) ++ px.blob 36 EVSHA ++ px.blob 36 (strOfNums (px.hexB (sha.sum (ints sc)))) ++ px.blob 36 (NK ks.length) ++ px.blobs ks ++ px.blobs az = l ++ px.texts (TL false sc ks az) := by
  have e : (TL false sc ks az).length = 3 + ks.length + az.length := by unfold TL; simp; omega
  unfold px.texts
  rw [e]
  unfold TL
  simp only [Bool.false_eq_true, if_false, px.blobs_app, px.blobs_cons, List.append_assoc, show px.blobs [] = [] from rfl, List.nil_append, List.append_nil]
theorem own_lit0 (e : TypeId) (g : Nat) : Own e 1 (.slice (some ⟨g, 0, none⟩) 0 0) 0 [] [(g, .cells #[] e (0, 0))] := ⟨rfl, .inr ⟨g, #[], 0, (0, 0), rfl, Nat.le_refl _, rfl, rfl, thaw0 _, fun j hj => by simp at hj⟩⟩
theorem own_row {e : TypeId} {A : Option Addr} {c n : Nat} {l : List ByteArray} {ow L0 : dc.Bk} (h : Own e 1 (.slice A n c) n (l.map Value.string) ow) (hs : ∀ x ∈ ow, x ∈ L0) : StrRow L0 A l := by
  intro i s hi
  have hlt := (List.getElem?_eq_some_iff.1 hi).1
  have hn := h.1
  rw [List.length_map] at hn
  rcases h.2 with ⟨hv, h0, _⟩ | ⟨g, cs, c', f, hv, _, _, rfl, _, hr⟩
  · omega
  · injection hv with e1 e2 e3
    exact ⟨g, cs, e, f, e1, hs _ (by simp), by rw [hr i (by rw [List.length_map]; exact hlt), List.getElem?_map, hi]; rfl⟩
theorem sum_size (l : List Int) : (strOfNums (px.hexB (sha.sum l))).size = 40 := by rw [strOfNums_size, px.hexB_len]; rfl
theorem StrRow.up {L0 L1 : dc.Bk} {A : Option Addr} {l : List ByteArray} (h : StrRow L0 A l) (hs : ∀ x ∈ L0, x ∈ L1) : StrRow L1 A l := by
  intro i s hi
  obtain ⟨g, cs, e, f, h1, h2, h3⟩ := h i s hi
  exact ⟨g, cs, e, f, h1, hs _ h2, h3⟩
theorem door_t (wb w0 : World) (B : Nat) (L0 : dc.Bk) (go bp b : Nat) (l : List Int) (ls : dc.Bk) (hE : ms.Env go bp b l ls) (ht : Lib.TabBelow Tryz.prog B wb "internal/strconv.uint64pow10" .u64 Lib.pow10Tab) (H : HH B wb w0 (ls ++ L0)) (hl : l.length ≤ 1000) (sc : ByteArray) (Ak Aa : Option Addr) (ck ca : Nat) (ks az : List ByteArray) (hk : StrRow L0 Ak ks) (ha : StrRow L0 Aa az) (hsc : sc.size ≤ 10000) (hks : ks.length < 100) (has : az.length < 100) (hk1 : ∀ s ∈ ks, s.size ≤ 1000) (ha1 : ∀ s ∈ az, s.size ≤ 1000) : Calls Tryz.prog 16 #[.iface 47 (.pointer (some ⟨b, 0, none⟩)), .string sc, .slice Ak ks.length ck, .slice Aa az.length ca, .bool true, .pointer (some ⟨go, 0, none⟩)] w0 fun e w' => e = .returned .nilIface ∧ ∃ ls', ms.Env go bp b (l ++ px.texts (TL true sc ks az)) ls' ∧ HH B wb w' (ls' ++ L0) := by
  refine c_enter (args := [.iface 47 (.pointer (some ⟨b, 0, none⟩)), .string sc, .slice Ak ks.length ck, .slice Aa az.length ca, .bool true, .pointer (some ⟨go, 0, none⟩)]) (k := 17) Tryz.func16 rfl rfl rfl (fun a S => ?_)
  refine wp_seq ?_
  refine c_region ?_
  refine l_pure S (p_assign rfl) rfl rfl rfl ?_; clear S a; intro a S
  refine l_nil ?_
  refine e_then ?_
  refine wp_seq ?_
  refine c_region ?_
  refine l_pure S (p_move rfl) rfl rfl rfl ?_; clear S a; intro a S
  have hcon := sm.script_ wb _ B _ sc (by omega) H
  refine l_call S rfl rfl Tryz.func33 rfl rfl (hcon) rfl rfl rfl ?_
  rintro e w ⟨rfl, hH⟩
  refine ⟨_, rfl, ?_⟩; clear S a; intro a S
  clear H hcon; have H := hH; clear hH
  refine l_pure S (p_move rfl) rfl rfl rfl ?_; clear S a; intro a S
  refine l_pure S (p_move rfl) rfl rfl rfl ?_; clear S a; intro a S
  refine l_pure S (p_move rfl) rfl rfl rfl ?_; clear S a; intro a S
  refine l_pure S (p_bld (ps := [(0, .tmp 14), (1, .tmp 15), (2, .tmp 16), (5, .tmp 17)]) rfl (bld75_0_1_2_5 _ _ _ _ _ _ _ _ _)) rfl rfl rfl ?_; clear S a; intro a S
  refine l_box (cs := #[.string sc, .string (strOfNums (px.hexB (sha.sum (ints sc)))), .slice Ak ks.length ck, .slice Aa az.length ca, .nilIface, .nilIface, .bool true]) S H rfl rfl (fun w => bx) rfl rfl rfl ?_; clear S a H; intro g2 w a H S
  refine l_pure S (p_move rfl) rfl rfl rfl ?_; clear S a; intro a S
  refine l_pure S (p_move rfl) rfl rfl rfl ?_; clear S a; intro a S
  replace H : HH B wb _ ((g2, .cells #[.string sc, .string (strOfNums (px.hexB (sha.sum (ints sc)))), .slice Ak ks.length ck, .slice Aa az.length ca, .nilIface, .nilIface, .bool true] 75 (0, 0)) :: (ls ++ L0)) := H
  replace H : HH B wb _ (ls ++ ((g2, .cells #[.string sc, .string (strOfNums (px.hexB (sha.sum (ints sc)))), .slice Ak ks.length ck, .slice Aa az.length ca, .nilIface, .nilIface, .bool true] 75 (0, 0)) :: L0)) := HH.app (HH.front (L1 := [(g2, .cells #[.string sc, .string (strOfNums (px.hexB (sha.sum (ints sc)))), .slice Ak ks.length ck, .slice Aa az.length ca, .nilIface, .nilIface, .bool true] 75 (0, 0))]) (S := ls) (L2 := L0) (HH.app H (by simp))) (by simp)
  have hcon := ev_t wb _ B L0 go bp b l ls hE ht hl g2 sc (strOfNums (px.hexB (sha.sum (ints sc)))) Ak Aa ck ca ks az hk ha hsc (by rw [sum_size]; decide) hks has hk1 ha1 H
  refine l_call S rfl rfl Tryz.func34 rfl rfl (hcon) rfl rfl rfl ?_
  rintro e w ⟨rfl, ls', hE', hH⟩
  refine ⟨_, rfl, ?_⟩; clear S a; intro a S
  rw [TL_t] at hE'
  clear H hcon; have H := HH.tail (HH.unmid hH); clear hH
  refine l_pure S (p_assign rfl) rfl rfl rfl ?_; clear S a; intro a S
  refine l_nil ?_
  refine e_then ?_
  refine wp_ret ?_
  exact r_ret1 S rfl rfl ⟨rfl, ls', hE', H⟩
theorem door_f (wb w0 : World) (B : Nat) (L0 : dc.Bk) (go bp b : Nat) (l : List Int) (ls : dc.Bk) (hE : ms.Env go bp b l ls) (ht : Lib.TabBelow Tryz.prog B wb "internal/strconv.uint64pow10" .u64 Lib.pow10Tab) (H : HH B wb w0 (ls ++ L0)) (hl : l.length ≤ 1000) (sc : ByteArray) (Ak Aa : Option Addr) (ck ca : Nat) (ks az : List ByteArray) (hk : StrRow L0 Ak ks) (ha : StrRow L0 Aa az) (hsc : sc.size ≤ 10000) (hks : ks.length < 100) (has : az.length < 100) (hk1 : ∀ s ∈ ks, s.size ≤ 1000) (ha1 : ∀ s ∈ az, s.size ≤ 1000) : Calls Tryz.prog 16 #[.iface 47 (.pointer (some ⟨b, 0, none⟩)), .string sc, .slice Ak ks.length ck, .slice Aa az.length ca, .bool false, .pointer (some ⟨go, 0, none⟩)] w0 fun e w' => e = .returned .nilIface ∧ ∃ ls', ms.Env go bp b (l ++ px.texts (TL false sc ks az)) ls' ∧ HH B wb w' (ls' ++ L0) := by
  refine c_enter (args := [.iface 47 (.pointer (some ⟨b, 0, none⟩)), .string sc, .slice Ak ks.length ck, .slice Aa az.length ca, .bool false, .pointer (some ⟨go, 0, none⟩)]) (k := 17) Tryz.func16 rfl rfl rfl (fun a S => ?_)
  refine wp_seq ?_
  refine c_region ?_
  refine l_pure S (p_assign rfl) rfl rfl rfl ?_; clear S a; intro a S
  refine l_nil ?_
  refine e_then ?_
  refine wp_seq ?_
  refine c_region ?_
  refine l_pure S (p_move rfl) rfl rfl rfl ?_; clear S a; intro a S
  have hcon := sm.script_ wb _ B _ sc (by omega) H
  refine l_call S rfl rfl Tryz.func33 rfl rfl (hcon) rfl rfl rfl ?_
  rintro e w ⟨rfl, hH⟩
  refine ⟨_, rfl, ?_⟩; clear S a; intro a S
  clear H hcon; have H := hH; clear hH
  refine l_pure S (p_move rfl) rfl rfl rfl ?_; clear S a; intro a S
  refine l_pure S (p_move rfl) rfl rfl rfl ?_; clear S a; intro a S
  refine l_pure S (p_move rfl) rfl rfl rfl ?_; clear S a; intro a S
  refine l_pure S (p_bld (ps := [(0, .tmp 14), (1, .tmp 15), (2, .tmp 16), (5, .tmp 17)]) rfl (bld75_0_1_2_5 _ _ _ _ _ _ _ _ _)) rfl rfl rfl ?_; clear S a; intro a S
  refine l_box (cs := #[.string sc, .string (strOfNums (px.hexB (sha.sum (ints sc)))), .slice Ak ks.length ck, .slice Aa az.length ca, .nilIface, .nilIface, .bool false]) S H rfl rfl (fun w => bx) rfl rfl rfl ?_; clear S a H; intro g2 w a H S
  refine l_pure S (p_move rfl) rfl rfl rfl ?_; clear S a; intro a S
  refine l_pure S (p_move rfl) rfl rfl rfl ?_; clear S a; intro a S
  replace H : HH B wb _ ((g2, .cells #[.string sc, .string (strOfNums (px.hexB (sha.sum (ints sc)))), .slice Ak ks.length ck, .slice Aa az.length ca, .nilIface, .nilIface, .bool false] 75 (0, 0)) :: (ls ++ L0)) := H
  replace H : HH B wb _ (ls ++ ((g2, .cells #[.string sc, .string (strOfNums (px.hexB (sha.sum (ints sc)))), .slice Ak ks.length ck, .slice Aa az.length ca, .nilIface, .nilIface, .bool false] 75 (0, 0)) :: L0)) := HH.app (HH.front (L1 := [(g2, .cells #[.string sc, .string (strOfNums (px.hexB (sha.sum (ints sc)))), .slice Ak ks.length ck, .slice Aa az.length ca, .nilIface, .nilIface, .bool false] 75 (0, 0))]) (S := ls) (L2 := L0) (HH.app H (by simp))) (by simp)
  have hcon := ev_f wb _ B L0 go bp b l ls hE ht hl g2 sc (strOfNums (px.hexB (sha.sum (ints sc)))) Ak Aa ck ca ks az hk ha hsc (by rw [sum_size]; decide) hks has hk1 ha1 H
  refine l_call S rfl rfl Tryz.func34 rfl rfl (hcon) rfl rfl rfl ?_
  rintro e w ⟨rfl, ls', hE', hH⟩
  refine ⟨_, rfl, ?_⟩; clear S a; intro a S
  rw [TL_f] at hE'
  clear H hcon; have H := HH.tail (HH.unmid hH); clear hH
  refine l_pure S (p_assign rfl) rfl rfl rfl ?_; clear S a; intro a S
  refine l_nil ?_
  refine e_then ?_
  refine wp_ret ?_
  exact r_ret1 S rfl rfl ⟨rfl, ls', hE', H⟩
theorem door_ (wb w0 : World) (B : Nat) (L0 : dc.Bk) (go bp b : Nat) (l : List Int) (ls : dc.Bk) (hE : ms.Env go bp b l ls) (ht : Lib.TabBelow Tryz.prog B wb "internal/strconv.uint64pow10" .u64 Lib.pow10Tab) (H : HH B wb w0 (ls ++ L0)) (hl : l.length ≤ 1000) (wh : Bool) (sc : ByteArray) (Ak Aa : Option Addr) (ck ca : Nat) (ks az : List ByteArray) (hk : StrRow L0 Ak ks) (ha : StrRow L0 Aa az) (hsc : sc.size ≤ 10000) (hks : ks.length < 100) (has : az.length < 100) (hk1 : ∀ s ∈ ks, s.size ≤ 1000) (ha1 : ∀ s ∈ az, s.size ≤ 1000) : Calls Tryz.prog 16 #[.iface 47 (.pointer (some ⟨b, 0, none⟩)), .string sc, .slice Ak ks.length ck, .slice Aa az.length ca, .bool wh, .pointer (some ⟨go, 0, none⟩)] w0 fun e w' => e = .returned .nilIface ∧ ∃ ls', ms.Env go bp b (l ++ px.texts (TL wh sc ks az)) ls' ∧ HH B wb w' (ls' ++ L0) := by
  cases wh
  · exact door_f wb w0 B L0 go bp b l ls hE ht H hl sc Ak Aa ck ca ks az hk ha hsc hks has hk1 ha1
  · exact door_t wb w0 B L0 go bp b l ls hE ht H hl sc Ak Aa ck ca ks az hk ha hsc hks has hk1 ha1
theorem state_nil (wb w0 : World) (B : Nat) (L0 : dc.Bk) (H : HH B wb w0 L0) : Calls Tryz.prog 19 #[.nilIface] w0 fun e w' => e = .returned (.int .i64 0) ∧ HH B wb w' L0 := by
  refine c_enter (args := [.nilIface]) (k := 22) Tryz.func19 rfl rfl rfl (fun a S => ?_)
  refine wp_seq ?_
  refine c_region ?_
  refine l_pure S (p_assign rfl) rfl rfl rfl ?_; clear S a; intro a S
  refine l_nil ?_
  refine e_then ?_
  refine wp_seq ?_
  refine wp_seq ?_
  refine c_region ?_
  refine l_pure S (p_move rfl) rfl rfl rfl ?_; clear S a; intro a S
  refine l_pure S (p_nilnil mi45 rfl) rfl rfl rfl ?_; clear S a; intro a S
  refine l_nil ?_
  refine e_then ?_
  refine c_cond (b := true) S rfl (fun _ => ?_) (fun h => by cases h)
  refine wp_seq ?_
  refine c_region ?_
  refine l_pure S (p_assign rfl) rfl rfl rfl ?_; clear S a; intro a S
  refine l_nil ?_
  refine e_then ?_
  refine wp_ret ?_
  refine e_then_ret ?_
  exact r_ret1 S rfl rfl ⟨rfl, H⟩
theorem idle15 (p0 : Addr) (p1 : Addr) (w : World) :
    CallsD Tryz.prog 15 #[.pointer (some p0), .pointer (some p1)] .returning w fun e u' w' => e = .returned (.tuple #[]) ∧ u' = .returning ∧ w' = w := by
  refine callsD_of_wpS Tryz.func15 rfl fun c₀ cs hu => ?_
  apply wpS_seq
  apply wpS_region
  simp [wpOpsS, go_sem, recoverD, hu, Tryz.ntmps15, Exit.thenS]
  refine wpS_cond (t := false) (by simp [Act.eval, Array.replicate]) ?_
  simp only [Bool.false_eq_true, if_false]
  refine wpS_of_wp (wp_skip ?_)
  cases c₀
  simp_all [bodyPostS, results, Tryz.results15]
set_option maxHeartbeats 1000000 in
theorem write_ (w0 : World) (ht0 : Lib.TabBelow Tryz.prog w0.heap.size w0 "internal/strconv.uint64pow10" .u64 Lib.pow10Tab) (wh : Bool) (sc : ByteArray) (Ak Aa : Option Addr) (ck ca : Nat) (ks az : List ByteArray) (hk : Kd.string.C w0 Ak ks.length ks) (ha : Kd.string.C w0 Aa az.length az) (hsc : sc.size ≤ 10000) (hks : ks.length < 100) (has : az.length < 100) (hk1 : ∀ s ∈ ks, s.size ≤ 1000) (ha1 : ∀ s ∈ az, s.size ≤ 1000) : Calls Tryz.prog 7 #[.string sc, .slice Ak ks.length ck, .slice Aa az.length ca, .bool wh] w0 fun e w' => e = .returned (.tuple #[.string (strOfNums (px.texts (TL wh sc ks az))), .int .i64 0]) ∧ Below w0.heap.size w0 w' := by
  have hk0 := hk; have ha0 := ha; clear hk ha
  obtain ⟨B, hBw⟩ : ∃ B, B = w0.heap.size := ⟨_, rfl⟩
  obtain ⟨wb, hwb⟩ : ∃ wb, wb = w0 := ⟨_, rfl⟩
  obtain ⟨L0, hL0⟩ : ∃ L0 : dc.Bk, L0 = [] := ⟨_, rfl⟩
  have H : HH B wb w0 L0 := by subst hBw hwb hL0; exact HH.start _
  have ht : Lib.TabBelow Tryz.prog B wb "internal/strconv.uint64pow10" .u64 Lib.pow10Tab := by subst hBw hwb; exact ht0
  refine c_enter_d (args := [.string sc, .slice Ak ks.length ck, .slice Aa az.length ca, .bool wh]) (k := 23) Tryz.func7 rfl rfl rfl (fun a S => ?_)
  refine wp_seq ?_
  refine c_region ?_
  refine l_alloc (cs := #[.string ⟨#[]⟩]) S H rfl (fun w => al zv9) rfl rfl rfl ?_; clear S a H; intro gs w a H S
  refine l_alloc (cs := #[.int .i64 0]) S H rfl (fun w => al zv3) rfl rfl rfl ?_; clear S a H; intro gi w a H S
  refine l_nil ?_
  refine e_then ?_
  refine wp_seq ?_
  refine c_region ?_
  refine l_pure S (p_func rfl rfl) rfl rfl rfl ?_; clear S a; intro a S
  refine l_defer (xs := []) (us := []) (vs := []) S rfl rfl rfl rfl rfl ?_; clear S a; intro a S
  refine l_nil ?_
  refine e_then ?_
  refine wp_seq ?_
  refine c_region ?_
  refine l_alloc (cs := #[.slice none 0 0, .int .i64 0, .int .i8 0]) S H rfl (fun w => al zv43) rfl rfl rfl ?_; clear S a H; intro b w a H S
  refine l_nil ?_
  refine e_then ?_
  refine wp_seq ?_
  refine c_region ?_
  refine l_pure S (p_iface rfl (fun w => mk47 w _)) rfl rfl rfl ?_; clear S a; intro a S
  refine l_pure S (p_move rfl) rfl rfl rfl ?_; clear S a; intro a S
  refine l_lit0 S H rfl Tryz.underlying22 sz9 rfl rfl rfl ?_; clear S a H; intro gl1 w a H S
  refine l_pure S (p_move rfl) rfl rfl rfl ?_; clear S a; intro a S
  refine l_own (n := 0) (m := ks.length) [] (xs := []) (ow := [(gl1, .cells #[] 9 (0, 0))]) (L := ((b, .cells #[.slice none 0 0, .int .i64 0, .int .i8 0] 43 (0, 0)) :: ((gi, .cells #[.int .i64 0] 3 (0, 0)) :: ((gs, .cells #[.string ⟨#[]⟩] 9 (0, 0)) :: L0)))) S H rfl rfl rfl (own_lit0 9 gl1) (src_C (h1 := fun _ => rfl) Tryz.underlying22 (C_later hk0 (by have := H.below; rw [hBw, hwb] at this; exact this))) Tryz.underlying22 in9 rfl (by omega) (by decide) rfl rfl rfl ?_; clear S a H; intro vk owk w a hwk H S
  rw [Nat.zero_add ks.length, List.nil_append] at hwk
  obtain ⟨Ak, ck, rfl, _⟩ := hwk.slice
  replace H : HH B wb _ (owk ++ ((b, .cells #[.slice none 0 0, .int .i64 0, .int .i8 0] 43 (0, 0)) :: ((gi, .cells #[.int .i64 0] 3 (0, 0)) :: ((gs, .cells #[.string ⟨#[]⟩] 9 (0, 0)) :: L0)))) := H
  refine l_lit0 S H rfl Tryz.underlying22 sz9 rfl rfl rfl ?_; clear S a H; intro gl2 w a H S
  refine l_pure S (p_move rfl) rfl rfl rfl ?_; clear S a; intro a S
  refine l_own (n := 0) (m := az.length) [] (xs := []) (ow := [(gl2, .cells #[] 9 (0, 0))]) (L := (owk ++ ((b, .cells #[.slice none 0 0, .int .i64 0, .int .i8 0] 43 (0, 0)) :: ((gi, .cells #[.int .i64 0] 3 (0, 0)) :: ((gs, .cells #[.string ⟨#[]⟩] 9 (0, 0)) :: L0))))) S H rfl rfl rfl (own_lit0 9 gl2) (src_C (h1 := fun _ => rfl) Tryz.underlying22 (C_later ha0 (by have := H.below; rw [hBw, hwb] at this; exact this))) Tryz.underlying22 in9 rfl (by omega) (by decide) rfl rfl rfl ?_; clear S a H; intro va owa w a hwa H S
  rw [Nat.zero_add az.length, List.nil_append] at hwa
  obtain ⟨Aa, ca, rfl, _⟩ := hwa.slice
  replace H : HH B wb _ (owa ++ (owk ++ ((b, .cells #[.slice none 0 0, .int .i64 0, .int .i8 0] 43 (0, 0)) :: ((gi, .cells #[.int .i64 0] 3 (0, 0)) :: ((gs, .cells #[.string ⟨#[]⟩] 9 (0, 0)) :: L0))))) := H
  refine l_pure S (p_move rfl) rfl rfl rfl ?_; clear S a; intro a S
  have hcon := pl.opts_ wb _ B _ H
  refine l_call S rfl rfl Tryz.func17 rfl rfl (hcon) rfl rfl rfl ?_
  rintro e w ⟨go, bp, br, rfl, hH⟩
  refine ⟨_, rfl, ?_⟩; clear S a; intro a S
  clear H hcon; have H := hH; clear hH
  replace H : HH B wb _ ((go, .cells #[.func (.func 37) #[.pointer (some ⟨bp, 0, none⟩)] #[], .func (.func 38) #[.pointer (some ⟨bp, 0, none⟩)] #[], .func (.func 39) #[.pointer (some ⟨br, 0, none⟩)] #[], .func (.func 40) #[] #[], .func (.func 42) #[] #[], .bool false, .bool false] 96 (0, 0)) :: ((bp, .cells #[.int .i64 0, .int .i64 10000000, .slice none 0 0] 143 (0, 0)) :: (owa ++ (owk ++ ((b, .cells #[.slice none 0 0, .int .i64 0, .int .i8 0] 43 (0, 0)) :: ((gi, .cells #[.int .i64 0] 3 (0, 0)) :: ((gs, .cells #[.string ⟨#[]⟩] 9 (0, 0)) :: L0))))))) := H
  replace H : HH B wb _ ((b, .cells #[.slice none 0 0, .int .i64 0, .int .i8 0] 43 (0, 0)) :: ((go, .cells #[.func (.func 37) #[.pointer (some ⟨bp, 0, none⟩)] #[], .func (.func 38) #[.pointer (some ⟨bp, 0, none⟩)] #[], .func (.func 39) #[.pointer (some ⟨br, 0, none⟩)] #[], .func (.func 40) #[] #[], .func (.func 42) #[] #[], .bool false, .bool false] 96 (0, 0)) :: ((bp, .cells #[.int .i64 0, .int .i64 10000000, .slice none 0 0] 143 (0, 0)) :: (owa ++ (owk ++ ((gi, .cells #[.int .i64 0] 3 (0, 0)) :: ((gs, .cells #[.string ⟨#[]⟩] 9 (0, 0)) :: L0))))))) := HH.app (HH.front (L1 := ((go, .cells #[.func (.func 37) #[.pointer (some ⟨bp, 0, none⟩)] #[], .func (.func 38) #[.pointer (some ⟨bp, 0, none⟩)] #[], .func (.func 39) #[.pointer (some ⟨br, 0, none⟩)] #[], .func (.func 40) #[] #[], .func (.func 42) #[] #[], .bool false, .bool false] 96 (0, 0)) :: ((bp, .cells #[.int .i64 0, .int .i64 10000000, .slice none 0 0] 143 (0, 0)) :: (owa ++ owk)))) (S := [(b, .cells #[.slice none 0 0, .int .i64 0, .int .i8 0] 43 (0, 0))]) (L2 := ((gi, .cells #[.int .i64 0] 3 (0, 0)) :: ((gs, .cells #[.string ⟨#[]⟩] 9 (0, 0)) :: L0))) (HH.app H (by simp))) (by simp)
  replace H : HH B wb _ ((b, .cells #[.slice none 0 0, .int .i64 0, .int .i8 0] 43 (0, 0)) :: ((go, .cells #[.func (.func 37) #[.pointer (some ⟨bp, 0, none⟩)] #[], .func (.func 38) #[.pointer (some ⟨bp, 0, none⟩)] #[], .func (.func 39) #[.pointer (some ⟨br, 0, none⟩)] #[], .func (.func 40) #[] #[], .func (.func 42) #[] #[], .bool false, .bool false] 96 (0, 0)) :: ((bp, .cells #[.int .i64 0, .int .i64 10000000, .slice none 0 0] 143 (0, 0)) :: (owa ++ (owk ++ ((gi, .cells #[.int .i64 0] 3 (0, 0)) :: ((gs, .cells #[.string ⟨#[]⟩] 9 (0, 0)) :: L0))))))) := H
  replace H : HH B wb _ ((go, .cells #[.func (.func 37) #[.pointer (some ⟨bp, 0, none⟩)] #[], .func (.func 38) #[.pointer (some ⟨bp, 0, none⟩)] #[], .func (.func 39) #[.pointer (some ⟨br, 0, none⟩)] #[], .func (.func 40) #[] #[], .func (.func 42) #[] #[], .bool false, .bool false] 96 (0, 0)) :: ((bp, .cells #[.int .i64 0, .int .i64 10000000, .slice none 0 0] 143 (0, 0)) :: ((b, .cells #[.slice none 0 0, .int .i64 0, .int .i8 0] 43 (0, 0)) :: (owa ++ (owk ++ ((gi, .cells #[.int .i64 0] 3 (0, 0)) :: ((gs, .cells #[.string ⟨#[]⟩] 9 (0, 0)) :: L0))))))) := HH.app (HH.front (L1 := [(b, .cells #[.slice none 0 0, .int .i64 0, .int .i8 0] 43 (0, 0))]) (S := ((go, .cells #[.func (.func 37) #[.pointer (some ⟨bp, 0, none⟩)] #[], .func (.func 38) #[.pointer (some ⟨bp, 0, none⟩)] #[], .func (.func 39) #[.pointer (some ⟨br, 0, none⟩)] #[], .func (.func 40) #[] #[], .func (.func 42) #[] #[], .bool false, .bool false] 96 (0, 0)) :: [(bp, .cells #[.int .i64 0, .int .i64 10000000, .slice none 0 0] 143 (0, 0))])) (L2 := (owa ++ (owk ++ ((gi, .cells #[.int .i64 0] 3 (0, 0)) :: ((gs, .cells #[.string ⟨#[]⟩] 9 (0, 0)) :: L0))))) (HH.app H (by simp))) (by simp)
  have hE : ms.Env go bp b [] ((go, .cells #[.func (.func 37) #[.pointer (some ⟨bp, 0, none⟩)] #[], .func (.func 38) #[.pointer (some ⟨bp, 0, none⟩)] #[], .func (.func 39) #[.pointer (some ⟨br, 0, none⟩)] #[], .func (.func 40) #[] #[], .func (.func 42) #[] #[], .bool false, .bool false] 96 (0, 0)) :: ([(bp, .cells #[.int .i64 0, .int .i64 10000000, .slice none 0 0] 143 (0, 0))] ++ [(b, .cells #[(.slice none 0 0), .int .i64 0, .int .i8 0] 43 (0, 0))])) := ⟨br, _, _, .inl ⟨0, _, [], own_nil' 147 1, rfl⟩, .inl ⟨rfl, rfl⟩, rfl⟩
  have hcon := door_ wb _ B (owa ++ (owk ++ ((gi, .cells #[.int .i64 0] 3 (0, 0)) :: ((gs, .cells #[.string ⟨#[]⟩] 9 (0, 0)) :: L0)))) go bp b [] _ hE ht (HH.app (L' := ((go, .cells #[.func (.func 37) #[.pointer (some ⟨bp, 0, none⟩)] #[], .func (.func 38) #[.pointer (some ⟨bp, 0, none⟩)] #[], .func (.func 39) #[.pointer (some ⟨br, 0, none⟩)] #[], .func (.func 40) #[] #[], .func (.func 42) #[] #[], .bool false, .bool false] 96 (0, 0)) :: ([(bp, .cells #[.int .i64 0, .int .i64 10000000, .slice none 0 0] 143 (0, 0))] ++ [(b, .cells #[(.slice none 0 0), .int .i64 0, .int .i8 0] 43 (0, 0))])) ++ (owa ++ (owk ++ ((gi, .cells #[.int .i64 0] 3 (0, 0)) :: ((gs, .cells #[.string ⟨#[]⟩] 9 (0, 0)) :: L0))))) H rfl) (by simp) wh sc Ak Aa ck ca ks az (own_row hwk (fun x hx => by simp only [List.mem_append, List.mem_cons]; exact .inr (.inl hx))) (own_row hwa (fun x hx => by simp only [List.mem_append, List.mem_cons]; exact .inl hx)) hsc hks has hk1 ha1
  refine l_call S rfl rfl Tryz.func16 rfl rfl (hcon) rfl rfl rfl ?_
  rintro e w ⟨rfl, ls', hE', hH⟩
  refine ⟨_, rfl, ?_⟩; clear S a; intro a S
  clear H hcon hE
  obtain ⟨br', po, bs, hp, hz, rfl⟩ := hE'
  rw [List.nil_append] at hz
  have H : HH B wb w ((go, .cells #[.func (.func 37) #[.pointer (some ⟨bp, 0, none⟩)] #[], .func (.func 38) #[.pointer (some ⟨bp, 0, none⟩)] #[], .func (.func 39) #[.pointer (some ⟨br', 0, none⟩)] #[], .func (.func 40) #[] #[], .func (.func 42) #[] #[], .bool false, .bool false] 96 (0, 0)) :: (po ++ (bs ++ (owa ++ (owk ++ ((gi, .cells #[.int .i64 0] 3 (0, 0)) :: ((gs, .cells #[.string ⟨#[]⟩] 9 (0, 0)) :: L0))))))) := HH.app hH (by simp)
  clear hH
  refine l_pure S (p_assign rfl) rfl rfl rfl ?_; clear S a; intro a S
  refine l_nil ?_
  refine e_then ?_
  refine wp_seq ?_
  refine c_region ?_
  replace H : HH B wb _ ((go, .cells #[.func (.func 37) #[.pointer (some ⟨bp, 0, none⟩)] #[], .func (.func 38) #[.pointer (some ⟨bp, 0, none⟩)] #[], .func (.func 39) #[.pointer (some ⟨br', 0, none⟩)] #[], .func (.func 40) #[] #[], .func (.func 42) #[] #[], .bool false, .bool false] 96 (0, 0)) :: (po ++ (bs ++ (owa ++ (owk ++ ((gi, .cells #[.int .i64 0] 3 (0, 0)) :: ((gs, .cells #[.string ⟨#[]⟩] 9 (0, 0)) :: L0))))))) := H
  replace H : HH B wb _ (bs ++ ((go, .cells #[.func (.func 37) #[.pointer (some ⟨bp, 0, none⟩)] #[], .func (.func 38) #[.pointer (some ⟨bp, 0, none⟩)] #[], .func (.func 39) #[.pointer (some ⟨br', 0, none⟩)] #[], .func (.func 40) #[] #[], .func (.func 42) #[] #[], .bool false, .bool false] 96 (0, 0)) :: (po ++ (owa ++ (owk ++ ((gi, .cells #[.int .i64 0] 3 (0, 0)) :: ((gs, .cells #[.string ⟨#[]⟩] 9 (0, 0)) :: L0))))))) := HH.app (HH.front (L1 := ((go, .cells #[.func (.func 37) #[.pointer (some ⟨bp, 0, none⟩)] #[], .func (.func 38) #[.pointer (some ⟨bp, 0, none⟩)] #[], .func (.func 39) #[.pointer (some ⟨br', 0, none⟩)] #[], .func (.func 40) #[] #[], .func (.func 42) #[] #[], .bool false, .bool false] 96 (0, 0)) :: po)) (S := bs) (L2 := (owa ++ (owk ++ ((gi, .cells #[.int .i64 0] 3 (0, 0)) :: ((gs, .cells #[.string ⟨#[]⟩] 9 (0, 0)) :: L0))))) (HH.app H (by simp))) (by simp)
  have hcon := bb.str_ wb _ B _ b _ bs hz (by unfold px.texts px.hdr; simp) H
  refine l_call S rfl rfl Tryz.func18 rfl rfl (hcon) rfl rfl rfl ?_
  rintro e w ⟨rfl, hH⟩
  refine ⟨_, rfl, ?_⟩; clear S a; intro a S
  clear H hcon; have H := hH; clear hH
  refine l_pure S (p_move rfl) rfl rfl rfl ?_; clear S a; intro a S
  refine l_call S rfl rfl Tryz.func19 rfl rfl (state_nil wb _ B _ H) rfl rfl rfl ?_
  rintro e w ⟨rfl, hH⟩
  refine ⟨_, rfl, ?_⟩; clear S a; intro a S
  clear H; have H := hH; clear hH
  refine l_store S H rfl rfl rfl (Upd.skip bs (.there (Upd.skip po (Upd.skip owa (Upd.skip owk (.there .here)))))) (by first | decide | simp [Value.cells]) (fun w u hc hz => st1 sz9 rfl hc hz) rfl rfl ?_; clear S a H; intro w a H S
  refine l_store S H rfl rfl rfl (Upd.skip bs (.there (Upd.skip po (Upd.skip owa (Upd.skip owk .here))))) (by first | decide | simp [Value.cells]) (fun w u hc hz => st1 sz3 rfl hc hz) rfl rfl ?_; clear S a H; intro w a H S
  refine l_nil ?_
  refine e_then ?_
  refine wp_ret ?_
  exact r_door (v := .tuple #[.string (strOfNums (px.texts (TL wh sc ks az))), .int .i64 0]) S (idle15 _ _) (invokes Tryz.func15 rfl rfl) (res_c2 rfl rfl rfl (lv ag9 H (List.mem_append_right _ (List.mem_cons_of_mem _ (List.mem_append_right _ (List.mem_append_right _ (List.mem_append_right _ (List.mem_cons_of_mem _ List.mem_cons_self)))))) rfl) (lv ag3 H (List.mem_append_right _ (List.mem_cons_of_mem _ (List.mem_append_right _ (List.mem_append_right _ (List.mem_append_right _ List.mem_cons_self))))) rfl)) ⟨rfl, by have := H.below; rw [hBw, hwb] at this; exact this⟩
end sw
end Go.Proofs.YtnmelglnkefjfaaGreatDoor.wr
