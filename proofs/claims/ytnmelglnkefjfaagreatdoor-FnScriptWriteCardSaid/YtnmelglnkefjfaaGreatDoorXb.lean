/- FnScriptWrite: the marshaler of a script. -/
import Derived.Test.YtnmelglnkefjfaaGreatDoorXa
import Derived.Test.YtnmelglnkefjfaaGreatDoorWd1
import Derived.Test.YtnmelglnkefjfaaGreatDoorDh
namespace Go.Proofs.YtnmelglnkefjfaaGreatDoor.wr
open Go.RowKit Go.Proofs.HHW Go.Proofs.YtnmelglnkefjfaaGreatDoorW.PrintWords
set_option linter.unusedVariables false
set_option linter.unusedSimpArgs false
namespace ev
theorem ag136 : aggB Tryz.prog 136 = some true := by kernel_rfl
theorem ag22 : aggB Tryz.prog 22 = some false := by kernel_rfl
theorem ag4 : aggB Tryz.prog 4 = some false := by kernel_rfl
theorem ag45 : aggB Tryz.prog 45 = some false := by kernel_rfl
theorem ag9 : aggB Tryz.prog 9 = some false := by kernel_rfl
theorem fa72_0 (w : World) (g o : Nat) : (Instr.fieldAt 72 (.pointer (some ⟨g, o, none⟩)) 0).run Tryz.prog w = .ok (.pointer (some ⟨g, o + 0, none⟩)) w := by kernel_rfl
theorem fa72_1 (w : World) (g o : Nat) : (Instr.fieldAt 72 (.pointer (some ⟨g, o, none⟩)) 1).run Tryz.prog w = .ok (.pointer (some ⟨g, o + 1, none⟩)) w := by kernel_rfl
theorem fa75_0 (w : World) (g o : Nat) : (Instr.fieldAt 75 (.pointer (some ⟨g, o, none⟩)) 0).run Tryz.prog w = .ok (.pointer (some ⟨g, o + 0, none⟩)) w := by kernel_rfl
theorem fa75_1 (w : World) (g o : Nat) : (Instr.fieldAt 75 (.pointer (some ⟨g, o, none⟩)) 1).run Tryz.prog w = .ok (.pointer (some ⟨g, o + 2, none⟩)) w := by kernel_rfl
theorem fa75_2 (w : World) (g o : Nat) : (Instr.fieldAt 75 (.pointer (some ⟨g, o, none⟩)) 2).run Tryz.prog w = .ok (.pointer (some ⟨g, o + 3, none⟩)) w := by kernel_rfl
theorem fa75_4 (w : World) (g o : Nat) : (Instr.fieldAt 75 (.pointer (some ⟨g, o, none⟩)) 4).run Tryz.prog w = .ok (.pointer (some ⟨g, o + 5, none⟩)) w := by kernel_rfl
theorem fa75_5 (w : World) (g o : Nat) : (Instr.fieldAt 75 (.pointer (some ⟨g, o, none⟩)) 5).run Tryz.prog w = .ok (.pointer (some ⟨g, o + 6, none⟩)) w := by kernel_rfl
theorem sz136 : szB Tryz.prog 136 = some 2 := by kernel_rfl
theorem sz9 : szB Tryz.prog 9 = some 1 := by kernel_rfl
theorem zv136 : zvB Tryz.prog 136 = some (.agg #[.int .i64 0, .bool false]) := by kernel_rfl
theorem bld136_0 (x0_0 : Int) : Tryz.prog.built 136 [(0, (.int .i64 x0_0))] = some #[.int .i64 x0_0, .bool false] := by kernel_rfl
theorem mi45 : Tryz.prog.underlying 45 = some (.interface (Tryz.prog.methodsAt 45)) := by kernel_rfl

/-- A row of texts in a block that is told of. -/
def StrRow (L0 : dc.Bk) (A : Option Addr) (l : List ByteArray) : Prop := ∀ (i : Nat) (s : ByteArray), l[i]? = some s → ∃ (g : Nat) (cs : Array Value) (e : TypeId) (f : Nat × Nat), A = some ⟨g, 0, none⟩ ∧ (g, Obj.cells cs e f) ∈ L0 ∧ cs[i]? = some (.string s)
def EVT : ByteArray := ⟨#[69, 86, 65, 76]⟩
def EVSHA : ByteArray := ⟨#[69, 86, 65, 76, 83, 72, 65]⟩
def NK (n : Nat) : ByteArray := ⟨(Lib.decDigits n).toArray⟩
theorem NK_size {n : Nat} (h : n < 100) : (NK n).size ≤ 2 := by
  have h1 : (NK n).size = (Lib.decDigits n).length := by unfold NK; simp [ByteArray.size]
  rw [h1, Lib.decDigits_length]
  exact wq.nDigits_le (k := 1) (by omega)
theorem NK_str (n : Nat) : strOfNums (wq.dec n) = NK n := by
  unfold NK wq.dec
  apply ByteArray.ext
  apply Array.toList_inj.1
  rw [strOfNums_data, List.map_map]
  conv => rhs; rw [show (⟨(Lib.decDigits n).toArray⟩ : ByteArray).data.toList = List.map id (Lib.decDigits n) by simp]
  apply List.map_congr_left
  intro b _
  simp
theorem evt_ints : ints EVT = [69, 86, 65, 76] := by decide
theorem evsha_ints : ints EVSHA = [69, 86, 65, 76, 83, 72, 65] := by decide
theorem evt_blob : px.blob 36 EVT = 36 :: (wq.dec 4 ++ [13, 10] ++ [69, 86, 65, 76] ++ [13, 10]) := by unfold px.blob; rw [evt_ints]; rfl
theorem evsha_blob : px.blob 36 EVSHA = 36 :: (wq.dec 7 ++ [13, 10] ++ [69, 86, 65, 76, 83, 72, 65] ++ [13, 10]) := by unfold px.blob; rw [evsha_ints]; rfl
theorem evt_row : bf.Row #[.int .u8 69, .int .u8 86, .int .u8 65, .int .u8 76] 0 [69, 86, 65, 76] := by
  intro i v hi
  rcases i with _ | _ | _ | _ | i <;> simp_all
theorem evsha_row : bf.Row #[.int .u8 69, .int .u8 86, .int .u8 65, .int .u8 76, .int .u8 83, .int .u8 72, .int .u8 65] 0 [69, 86, 65, 76, 83, 72, 65] := by
  intro i v hi
  rcases i with _ | _ | _ | _ | _ | _ | _ | i <;> simp_all
theorem blobs_take {l : List ByteArray} (hl : l.length ≤ 100) (h : ∀ s ∈ l, s.size ≤ 1000) (i : Nat) : (px.blobs (l.take i)).length ≤ 101200 := by
  have h1 := px.blobs_len (l := l.take i) (m := 1000) (by omega) (fun s hs => h s (List.mem_of_mem_take hs))
  have h2 : (l.take i).length ≤ 100 := by rw [List.length_take]; omega
  have h3 := Nat.mul_le_mul_right 1012 h2
  omega
theorem blobs_all {l : List ByteArray} (hl : l.length ≤ 100) (h : ∀ s ∈ l, s.size ≤ 1000) : (px.blobs l).length ≤ 101200 := by
  have := blobs_take hl h l.length
  rwa [List.take_of_length_le (Nat.le_refl _)] at this
set_option maxHeartbeats 1000000 in
theorem ev_t (wb w0 : World) (B : Nat) (L0 : dc.Bk) (go bp b : Nat) (l : List Int) (ls : dc.Bk) (hE : ms.Env go bp b l ls) (ht : Lib.TabBelow Tryz.prog B wb "internal/strconv.uint64pow10" .u64 Lib.pow10Tab) (hl : l.length ≤ 1000) (ge : Nat) (sc su : ByteArray) (Ak Aa : Option Addr) (ck ca : Nat) (ks az : List ByteArray) (hk : StrRow L0 Ak ks) (ha : StrRow L0 Aa az) (hsc : sc.size ≤ 10000) (hsu : su.size ≤ 10000) (hks : ks.length < 100) (has : az.length < 100) (hk1 : ∀ s ∈ ks, s.size ≤ 1000) (ha1 : ∀ s ∈ az, s.size ≤ 1000) (H : HH B wb w0 (ls ++ ((ge, .cells #[.string sc, .string su, .slice Ak ks.length ck, .slice Aa az.length ca, .nilIface, .nilIface, .bool true] 75 (0, 0)) :: L0))) : Calls Tryz.prog 34 #[.pointer (some ⟨ge, 0, none⟩), .iface 47 (.pointer (some ⟨b, 0, none⟩)), .pointer (some ⟨go, 0, none⟩)] w0 fun e w' => e = .returned .nilIface ∧ ∃ ls', ms.Env go bp b (l ++ px.hdr 42 (3 + ks.length + az.length) ++ px.blob 36 EVT ++ px.blob 36 sc ++ px.blob 36 (NK ks.length) ++ px.blobs ks ++ px.blobs az) ls' ∧ HH B wb w' (ls' ++ ((ge, .cells #[.string sc, .string su, .slice Ak ks.length ck, .slice Aa az.length ca, .nilIface, .nilIface, .bool true] 75 (0, 0)) :: L0)) := by
  obtain ⟨i, hi0⟩ : ∃ i : Nat, i = 0 := ⟨0, rfl⟩
  obtain ⟨j, hj0⟩ : ∃ j : Nat, j = 0 := ⟨0, rfl⟩
  refine c_enter (args := [.pointer (some ⟨ge, 0, none⟩), .iface 47 (.pointer (some ⟨b, 0, none⟩)), .pointer (some ⟨go, 0, none⟩)]) (k := 117) Tryz.func34 rfl rfl rfl (fun a S => ?_)
  refine wp_seq ?_
  refine c_region ?_
  refine l_pure S (p_assign rfl) rfl rfl rfl ?_; clear S a; intro a S
  refine l_nil ?_
  refine e_then ?_
  refine wp_seq ?_
  refine wp_seq ?_
  refine c_region ?_
  refine l_pure S (p_move rfl) rfl rfl rfl ?_; clear S a; intro a S
  refine l_pure S (p_nilCheck rfl) rfl rfl rfl ?_; clear S a; intro a S
  refine l_pure S (p_fieldAddr rfl (fun w => fa75_4 w _ _)) rfl rfl rfl ?_; clear S a; intro a S
  refine l_read S H (r_load rfl (List.mem_append_right _ List.mem_cons_self) rfl (fun w hc => ld1 ag45 hc)) rfl rfl rfl ?_; clear S a; intro a S
  refine l_pure S (p_nilnilN mi45 rfl) rfl rfl rfl ?_; clear S a; intro a S
  refine l_nil ?_
  refine e_then ?_
  refine c_cond (b := false) S rfl (fun h => by cases h) (fun _ => ?_)
  refine wp_skip ?_
  refine e_then ?_
  refine wp_seq ?_
  refine d_start (id := 3) [14] 15 #[false, false, false, false, false, false, false, false, false, false, false, false, false, false, false] H rfl rfl rfl (fun w H => ?_)
  refine d_pure (i := 0) #[true, false, false, false, false, false, false, false, false, false, false, false, false, false, false] S rfl (p_move rfl) (wanted_none rfl) rfl rfl (by kernel_rfl) (fun _ _ _ h => h) ?_; clear S a; intro a S
  refine d_pure (i := 1) #[true, true, false, false, false, false, false, false, false, false, false, false, false, false, false] S rfl (p_nilCheck rfl) (wanted_none rfl) rfl rfl (by kernel_rfl) (fun _ _ _ h => h) ?_; clear S a; intro a S
  refine d_pure (i := 2) #[true, true, true, false, false, false, false, false, false, false, false, false, false, false, false] S rfl (p_fieldAddr rfl (fun w => fa75_1 w _ _)) (wanted_none rfl) rfl rfl (by kernel_rfl) (fun _ _ _ h => h) ?_; clear S a; intro a S
  refine d_read (i := 3) #[true, true, true, true, false, false, false, false, false, false, false, false, false, false, false] S H rfl (r_load rfl (List.mem_append_right _ List.mem_cons_self) rfl (fun w hc => ld1 ag22 hc)) (wanted_none rfl) rfl rfl (by kernel_rfl) (fun _ _ _ h => h) ?_; clear S a; intro a S
  refine d_pure (i := 4) #[true, true, true, true, true, false, false, false, false, false, false, false, false, false, false] S rfl (p_len Tryz.underlying22 rfl) (wanted_none rfl) rfl rfl (by kernel_rfl) (fun _ _ _ h => h) ?_; clear S a; intro a S
  refine d_pure (i := 5) #[true, true, true, true, true, true, false, false, false, false, false, false, false, false, false] S rfl (p_add rfl rfl (nat_add (x := 3) (y := ks.length) (by omega))) (wanted_none rfl) rfl rfl (by kernel_rfl) (fun _ _ _ h => h) ?_; clear S a; intro a S
  refine d_pure (i := 6) #[true, true, true, true, true, true, true, false, false, false, false, false, false, false, false] S rfl (p_move rfl) (wanted_none rfl) rfl rfl (by kernel_rfl) (fun _ _ _ h => h) ?_; clear S a; intro a S
  refine d_pure (i := 7) #[true, true, true, true, true, true, true, true, false, false, false, false, false, false, false] S rfl (p_nilCheck rfl) (wanted_none rfl) rfl rfl (by kernel_rfl) (fun _ _ _ h => h) ?_; clear S a; intro a S
  refine d_pure (i := 8) #[true, true, true, true, true, true, true, true, true, false, false, false, false, false, false] S rfl (p_fieldAddr rfl (fun w => fa75_2 w _ _)) (wanted_none rfl) rfl rfl (by kernel_rfl) (fun _ _ _ h => h) ?_; clear S a; intro a S
  refine d_read (i := 9) #[true, true, true, true, true, true, true, true, true, true, false, false, false, false, false] S H rfl (r_load rfl (List.mem_append_right _ List.mem_cons_self) rfl (fun w hc => ld1 ag22 hc)) (wanted_none rfl) rfl rfl (by kernel_rfl) (fun _ _ _ h => h) ?_; clear S a; intro a S
  refine d_pure (i := 10) #[true, true, true, true, true, true, true, true, true, true, true, false, false, false, false] S rfl (p_len Tryz.underlying22 rfl) (wanted_none rfl) rfl rfl (by kernel_rfl) (fun _ _ _ h => h) ?_; clear S a; intro a S
  refine d_pure (i := 11) #[true, true, true, true, true, true, true, true, true, true, true, true, false, false, false] S rfl (p_add rfl rfl (nat_add (x := (3 + ks.length)) (y := az.length) (by omega))) (wanted_none rfl) rfl rfl (by kernel_rfl) (fun _ _ _ h => h) ?_; clear S a; intro a S
  refine d_pure (i := 12) #[true, true, true, true, true, true, true, true, true, true, true, true, true, false, false] S rfl (p_bld (ps := [(0, .tmp 31)]) rfl (bld136_0 _)) (wanted_none rfl) rfl rfl (by kernel_rfl) (fun _ _ _ h => h) ?_; clear S a; intro a S
  refine d_alloc (i := 13) (cs := #[.int .i64 0, .bool false]) #[true, true, true, true, true, true, true, true, true, true, true, true, true, true, false] S (.refl _) H rfl rfl (fun w => al zv136) (wanted_none rfl) rfl rfl (by kernel_rfl) rfl ?_; clear S a H; intro g3 w a H S
  refine d_storeAll (i := 14) (vs := [.int .i64 ((((3 + ks.length) + az.length) : Nat) : Int), .bool false]) #[true, true, true, true, true, true, true, true, true, true, true, true, true, true, true] S H rfl rfl rfl rfl sz136 .here rfl (fun v hv => by simp only [List.mem_cons, List.not_mem_nil, or_false] at hv; rcases hv with rfl | rfl <;> rfl) (wanted_none rfl) rfl (by kernel_rfl) rfl ?_; clear S a H; intro w a H S
  refine d_done (by kernel_rfl) ?_
  refine e_then ?_
  refine wp_seq ?_
  refine c_region ?_
  refine l_read S H (r_loadn (m := 2) (vs := [.int .i64 ((((3 + ks.length) + az.length) : Nat) : Int), .bool false]) rfl List.mem_cons_self ag136 sz136 rfl rfl) rfl rfl rfl ?_; clear S a; intro a S
  refine l_pure S (p_move rfl) rfl rfl rfl ?_; clear S a; intro a S
  refine l_pure S (p_move rfl) rfl rfl rfl ?_; clear S a; intro a S
  replace H : HH B wb _ ((g3, .cells #[.int .i64 ((((3 + ks.length) + az.length) : Nat) : Int), .bool false] 136 (0, 0)) :: (ls ++ ((ge, .cells #[.string sc, .string su, .slice Ak ks.length ck, .slice Aa az.length ca, .nilIface, .nilIface, .bool true] 75 (0, 0)) :: L0))) := H
  replace H : HH B wb _ (ls ++ ((g3, .cells #[.int .i64 ((((3 + ks.length) + az.length) : Nat) : Int), .bool false] 136 (0, 0)) :: ((ge, .cells #[.string sc, .string su, .slice Ak ks.length ck, .slice Aa az.length ca, .nilIface, .nilIface, .bool true] 75 (0, 0)) :: L0))) := HH.app (HH.front (L1 := [(g3, .cells #[.int .i64 ((((3 + ks.length) + az.length) : Nat) : Int), .bool false] 136 (0, 0))]) (S := ls) (L2 := ((ge, .cells #[.string sc, .string su, .slice Ak ks.length ck, .slice Aa az.length ca, .nilIface, .nilIface, .bool true] 75 (0, 0)) :: L0)) (HH.app H (by simp))) (by simp)
  have hcon := ms.arh_ wb _ B ((g3, .cells #[.int .i64 ((((3 + ks.length) + az.length) : Nat) : Int), .bool false] 136 (0, 0)) :: ((ge, .cells #[.string sc, .string su, .slice Ak ks.length ck, .slice Aa az.length ca, .nilIface, .nilIface, .bool true] 75 (0, 0)) :: L0)) go bp b l ls hE ht H (by have e1 := px.hdr_len 42 (3 + ks.length + az.length) (by omega); have e2 := px.blob_len 36 EVT (by decide); have e3 := px.blob_len 36 sc (by omega); have e0 : EVT.size ≤ 7 := (by decide); have e4 := NK_size hks; have e5 := px.blob_len 36 (NK ks.length) (by omega); have e6 := blobs_take (by omega) hk1 i; have e7 := blobs_take (by omega) ha1 j; have e8 := blobs_all (by omega) hk1; (try simp only [List.length_append]); omega) (3 + ks.length + az.length) (by omega)
  refine l_call S rfl rfl Tryz.func51 rfl rfl (hcon) rfl rfl rfl ?_
  rintro e w ⟨rfl, lse4, hEe4, hH⟩
  refine ⟨_, rfl, ?_⟩; clear S a; intro a S
  clear H hcon; have H := hH; clear hH
  replace hEe4 : ms.Env go bp b (l ++ px.hdr 42 (3 + ks.length + az.length)) lse4 := hEe4
  refine l_pure S (p_assign rfl) rfl rfl rfl ?_; clear S a; intro a S
  refine l_nil ?_
  refine e_then ?_
  refine wp_seq ?_
  refine wp_seq ?_
  refine c_region ?_
  refine l_pure S (p_move rfl) rfl rfl rfl ?_; clear S a; intro a S
  refine l_pure S (p_nilCheck rfl) rfl rfl rfl ?_; clear S a; intro a S
  refine l_pure S (p_fieldAddr rfl (fun w => fa75_5 w _ _)) rfl rfl rfl ?_; clear S a; intro a S
  refine l_read S H (r_load rfl (List.mem_append_right _ (List.mem_cons_of_mem _ List.mem_cons_self)) rfl (fun w hc => ld1 ag4 hc)) rfl rfl rfl ?_; clear S a; intro a S
  refine l_nil ?_
  refine e_then ?_
  refine c_cond (b := true) S rfl (fun _ => ?_) (fun h => by cases h)
  refine wp_seq ?_
  refine c_region ?_
  refine l_pure S (p_move rfl) rfl rfl rfl ?_; clear S a; intro a S
  refine l_pure S (p_move rfl) rfl rfl rfl ?_; clear S a; intro a S
  have hcon := ms.eval_ wb _ B _ H
  refine l_call S rfl rfl Tryz.func53 rfl rfl (hcon) rfl rfl rfl ?_
  rintro e w ⟨gd, rfl, hH⟩
  refine ⟨_, rfl, ?_⟩; clear S a; intro a S
  clear H hcon; have H := hH; clear hH
  refine l_pure S (p_move rfl) rfl rfl rfl ?_; clear S a; intro a S
  replace H : HH B wb _ ((gd, .cells #[.int .u8 69, .int .u8 86, .int .u8 65, .int .u8 76] 5 (4, 5)) :: (lse4 ++ ((g3, .cells #[.int .i64 ((((3 + ks.length) + az.length) : Nat) : Int), .bool false] 136 (0, 0)) :: ((ge, .cells #[.string sc, .string su, .slice Ak ks.length ck, .slice Aa az.length ca, .nilIface, .nilIface, .bool true] 75 (0, 0)) :: L0)))) := H
  replace H : HH B wb _ (lse4 ++ ((gd, .cells #[.int .u8 69, .int .u8 86, .int .u8 65, .int .u8 76] 5 (4, 5)) :: ((g3, .cells #[.int .i64 ((((3 + ks.length) + az.length) : Nat) : Int), .bool false] 136 (0, 0)) :: ((ge, .cells #[.string sc, .string su, .slice Ak ks.length ck, .slice Aa az.length ca, .nilIface, .nilIface, .bool true] 75 (0, 0)) :: L0)))) := HH.app (HH.front (L1 := [(gd, .cells #[.int .u8 69, .int .u8 86, .int .u8 65, .int .u8 76] 5 (4, 5))]) (S := lse4) (L2 := ((g3, .cells #[.int .i64 ((((3 + ks.length) + az.length) : Nat) : Int), .bool false] 136 (0, 0)) :: ((ge, .cells #[.string sc, .string su, .slice Ak ks.length ck, .slice Aa az.length ca, .nilIface, .nilIface, .bool true] 75 (0, 0)) :: L0))) (HH.app H (by simp))) (by simp)
  have hcon := ms.mbsb_ wb _ B ((gd, .cells #[.int .u8 69, .int .u8 86, .int .u8 65, .int .u8 76] 5 (4, 5)) :: ((g3, .cells #[.int .i64 ((((3 + ks.length) + az.length) : Nat) : Int), .bool false] 136 (0, 0)) :: ((ge, .cells #[.string sc, .string su, .slice Ak ks.length ck, .slice Aa az.length ca, .nilIface, .nilIface, .bool true] 75 (0, 0)) :: L0))) go bp b (l ++ px.hdr 42 (3 + ks.length + az.length)) lse4 hEe4 ht H (by have e1 := px.hdr_len 42 (3 + ks.length + az.length) (by omega); have e2 := px.blob_len 36 EVT (by decide); have e3 := px.blob_len 36 sc (by omega); have e0 : EVT.size ≤ 7 := (by decide); have e4 := NK_size hks; have e5 := px.blob_len 36 (NK ks.length) (by omega); have e6 := blobs_take (by omega) hk1 i; have e7 := blobs_take (by omega) ha1 j; have e8 := blobs_all (by omega) hk1; (try simp only [List.length_append]); omega) gd 0 4 _ _ [69, 86, 65, 76] List.mem_cons_self evt_row (by decide)
  refine l_call S rfl rfl Tryz.func52 rfl rfl (hcon) rfl rfl rfl ?_
  rintro e w ⟨rfl, lse7, hEe7, hH⟩
  refine ⟨_, rfl, ?_⟩; clear S a; intro a S
  clear H hcon; have H := hH; clear hH
  replace hEe7 : ms.Env go bp b ((l ++ px.hdr 42 (3 + ks.length + az.length)) ++ (36 :: (wq.dec 4 ++ [13, 10] ++ [69, 86, 65, 76] ++ [13, 10]))) lse7 := hEe7
  rw [← evt_blob] at hEe7
  replace H : HH B wb _ (lse7 ++ ((ge, .cells #[.string sc, .string su, .slice Ak ks.length ck, .slice Aa az.length ca, .nilIface, .nilIface, .bool true] 75 (0, 0)) :: L0)) := H.sub (List.Sublist.append (.refl _) (.cons _ (.cons _ (.cons_cons _ (.refl _)))))
  refine l_pure S (p_assign rfl) rfl rfl rfl ?_; clear S a; intro a S
  refine l_nil ?_
  refine e_then ?_
  refine c_region ?_
  refine l_pure S (p_move rfl) rfl rfl rfl ?_; clear S a; intro a S
  refine l_pure S (p_move rfl) rfl rfl rfl ?_; clear S a; intro a S
  refine l_pure S (p_move rfl) rfl rfl rfl ?_; clear S a; intro a S
  refine l_pure S (p_nilCheck rfl) rfl rfl rfl ?_; clear S a; intro a S
  refine l_pure S (p_fieldAddr rfl (fun w => fa75_0 w _ _)) rfl rfl rfl ?_; clear S a; intro a S
  refine l_pure S (p_fieldAddr rfl (fun w => fa72_0 w _ _)) rfl rfl rfl ?_; clear S a; intro a S
  refine l_read S H (r_load rfl (List.mem_append_right _ List.mem_cons_self) rfl (fun w hc => ld1 ag9 hc)) rfl rfl rfl ?_; clear S a; intro a S
  refine l_pure S (p_move rfl) rfl rfl rfl ?_; clear S a; intro a S
  have hcon := ms.mbs_ wb _ B ((ge, .cells #[.string sc, .string su, .slice Ak ks.length ck, .slice Aa az.length ca, .nilIface, .nilIface, .bool true] 75 (0, 0)) :: L0) go bp b ((l ++ px.hdr 42 (3 + ks.length + az.length)) ++ px.blob 36 EVT) lse7 hEe7 ht H (by have e1 := px.hdr_len 42 (3 + ks.length + az.length) (by omega); have e2 := px.blob_len 36 EVT (by decide); have e3 := px.blob_len 36 sc (by omega); have e0 : EVT.size ≤ 7 := (by decide); have e4 := NK_size hks; have e5 := px.blob_len 36 (NK ks.length) (by omega); have e6 := blobs_take (by omega) hk1 i; have e7 := blobs_take (by omega) ha1 j; have e8 := blobs_all (by omega) hk1; (try simp only [List.length_append]); omega) sc (by omega)
  refine l_call S rfl rfl Tryz.func54 rfl rfl (hcon) rfl rfl rfl ?_
  rintro e w ⟨rfl, lse8, hEe8, hH⟩
  refine ⟨_, rfl, ?_⟩; clear S a; intro a S
  clear H hcon; have H := hH; clear hH
  replace hEe8 : ms.Env go bp b (((l ++ px.hdr 42 (3 + ks.length + az.length)) ++ px.blob 36 EVT) ++ px.blob 36 sc) lse8 := hEe8
  refine l_pure S (p_assign rfl) rfl rfl rfl ?_; clear S a; intro a S
  refine l_nil ?_
  refine e_then ?_
  refine wp_seq ?_
  refine c_region ?_
  refine l_pure S (p_move rfl) rfl rfl rfl ?_; clear S a; intro a S
  refine l_pure S (p_move rfl) rfl rfl rfl ?_; clear S a; intro a S
  refine l_pure S (p_move rfl) rfl rfl rfl ?_; clear S a; intro a S
  refine l_pure S (p_nilCheck rfl) rfl rfl rfl ?_; clear S a; intro a S
  refine l_pure S (p_fieldAddr rfl (fun w => fa75_1 w _ _)) rfl rfl rfl ?_; clear S a; intro a S
  refine l_read S H (r_load rfl (List.mem_append_right _ List.mem_cons_self) rfl (fun w hc => ld1 ag22 hc)) rfl rfl rfl ?_; clear S a; intro a S
  refine l_pure S (p_len Tryz.underlying22 rfl) rfl rfl rfl ?_; clear S a; intro a S
  have hcon := nm.itoa_ wb _ B _ ks.length hks H
  refine l_call S rfl rfl Tryz.func56 rfl rfl (hcon) rfl rfl rfl ?_
  rintro e w ⟨rfl, hH⟩
  refine ⟨_, rfl, ?_⟩; clear S a; intro a S
  clear H hcon; have H := hH; clear hH
  change SL a _ _ ((_, .string (NK ks.length)) :: _) at S
  refine l_pure S (p_move rfl) rfl rfl rfl ?_; clear S a; intro a S
  have hcon := ms.mbs_ wb _ B ((ge, .cells #[.string sc, .string su, .slice Ak ks.length ck, .slice Aa az.length ca, .nilIface, .nilIface, .bool true] 75 (0, 0)) :: L0) go bp b (((l ++ px.hdr 42 (3 + ks.length + az.length)) ++ px.blob 36 EVT) ++ px.blob 36 sc) lse8 hEe8 ht H (by have e1 := px.hdr_len 42 (3 + ks.length + az.length) (by omega); have e2 := px.blob_len 36 EVT (by decide); have e3 := px.blob_len 36 sc (by omega); have e0 : EVT.size ≤ 7 := (by decide); have e4 := NK_size hks; have e5 := px.blob_len 36 (NK ks.length) (by omega); have e6 := blobs_take (by omega) hk1 i; have e7 := blobs_take (by omega) ha1 j; have e8 := blobs_all (by omega) hk1; (try simp only [List.length_append]); omega) (NK ks.length) (by have := NK_size hks; omega)
  refine l_call S rfl rfl Tryz.func54 rfl rfl (hcon) rfl rfl rfl ?_
  rintro e w ⟨rfl, lse9, hEe9, hH⟩
  refine ⟨_, rfl, ?_⟩; clear S a; intro a S
  clear H hcon; have H := hH; clear hH
  replace hEe9 : ms.Env go bp b ((((l ++ px.hdr 42 (3 + ks.length + az.length)) ++ px.blob 36 EVT) ++ px.blob 36 sc) ++ px.blob 36 (NK ks.length)) lse9 := hEe9
  refine l_pure S (p_assign rfl) rfl rfl rfl ?_; clear S a; intro a S
  refine l_nil ?_
  refine e_then ?_
  refine wp_seq ?_
  refine wp_seq ?_
  refine c_region ?_
  refine l_pure S (p_move rfl) rfl rfl rfl ?_; clear S a; intro a S
  refine l_pure S (p_nilCheck rfl) rfl rfl rfl ?_; clear S a; intro a S
  refine l_pure S (p_fieldAddr rfl (fun w => fa75_1 w _ _)) rfl rfl rfl ?_; clear S a; intro a S
  refine l_read S H (r_load rfl (List.mem_append_right _ List.mem_cons_self) rfl (fun w hc => ld1 ag22 hc)) rfl rfl rfl ?_; clear S a; intro a S
  refine l_pure S (p_len Tryz.underlying22 rfl) rfl rfl rfl ?_; clear S a; intro a S
  refine l_pure S (p_move rfl) rfl rfl rfl ?_; clear S a; intro a S
  refine l_nil ?_
  refine e_then ?_
  refine wp_block ?_
  refine c_loop (σ := Nat × dc.Bk) (fun s_ a w => match s_ with | ⟨i, lsv⟩ => SL a 120 [] [(0, .pointer (some ⟨ge, 0, none⟩)), (1, .iface 47 (.pointer (some ⟨b, 0, none⟩))), (2, .pointer (some ⟨go, 0, none⟩)), (8, .nilIface), (83, .int .i64 (ks.length : Int)), (84, .int .i64 (i : Int))] ∧ HH B wb w (lsv ++ ((ge, .cells #[.string sc, .string su, .slice Ak ks.length ck, .slice Aa az.length ca, .nilIface, .nilIface, .bool true] 75 (0, 0)) :: L0)) ∧ (i ≤ ks.length ∧ ms.Env go bp b (((((l ++ px.hdr 42 (3 + ks.length + az.length)) ++ px.blob 36 EVT) ++ px.blob 36 sc) ++ px.blob 36 (NK ks.length)) ++ px.blobs (ks.take i)) lsv)) (fun s_ => match s_ with | ⟨i, lsv⟩ => ks.length - i) ⟨0, lse9⟩ ⟨S.only ⟨rfl, rfl, rfl, rfl, rfl, rfl, trivial⟩, H, ⟨Nat.zero_le _, by rw [List.take_zero, show px.blobs [] = [] from rfl, List.append_nil]; exact hEe9⟩⟩ ?_
  clear S a H; rintro ⟨i, lsv⟩ a w ⟨S, H, hinv⟩
  obtain ⟨hii, hEv⟩ := hinv
  refine wp_seq ?_
  refine c_region ?_
  refine l_pure S (p_lss rfl rfl) rfl rfl rfl ?_; clear S a; intro a S
  refine l_nil ?_
  refine e_then ?_
  refine wp_seq ?_
  refine c_cond S rfl (fun bc11 => ?_) (fun bc11 => ?_)
  · skip
    have c11 := bc11
    have c11 := of_decide_eq_true c11
    refine wp_skip ?_
    refine e_then ?_
    refine wp_seq ?_
    refine wp_block ?_
    refine wp_seq ?_
    refine c_region ?_
    refine l_pure S (p_move rfl) rfl rfl rfl ?_; clear S a; intro a S
    refine l_pure S (p_assign rfl) rfl rfl rfl ?_; clear S a; intro a S
    refine l_nil ?_
    refine e_then ?_
    refine c_region ?_
    refine l_pure S (p_move rfl) rfl rfl rfl ?_; clear S a; intro a S
    refine l_pure S (p_move rfl) rfl rfl rfl ?_; clear S a; intro a S
    refine l_pure S (p_move rfl) rfl rfl rfl ?_; clear S a; intro a S
    refine l_pure S (p_nilCheck rfl) rfl rfl rfl ?_; clear S a; intro a S
    refine l_pure S (p_fieldAddr rfl (fun w => fa75_1 w _ _)) rfl rfl rfl ?_; clear S a; intro a S
    refine l_read S H (r_load rfl (List.mem_append_right _ List.mem_cons_self) rfl (fun w hc => ld1 ag22 hc)) rfl rfl rfl ?_; clear S a; intro a S
    refine l_pure S (p_move rfl) rfl rfl rfl ?_; clear S a; intro a S
    obtain ⟨gk, csk, ek, fk, hA, hmk, hck⟩ := hk i _ (get_some ByteArray.empty (show i < ks.length by omega))
    have hsz := hk1 _ (List.mem_of_getElem? (get_some ByteArray.empty (show i < ks.length by omega)))
    refine l_pure (v := .pointer (some ⟨gk, i, none⟩)) S (p_indexAddr rfl rfl (fun w => by rw [hA]; have := ia_slice (g := gk) (o := 0) (c := ck) (w := w) Tryz.underlying22 sz9 (k := .i64) (i := (i : Int)) (n := ks.length) (by omega) (by omega); simpa using this)) rfl rfl rfl ?_; clear S a; intro a S
    refine l_read S H (r_load rfl (List.mem_append_right _ (List.mem_cons_of_mem _ hmk)) hck (fun w hc => ld1 ag9 hc)) rfl rfl rfl ?_; clear S a; intro a S
    refine l_pure S (p_move rfl) rfl rfl rfl ?_; clear S a; intro a S
    have hcon := ms.mbs_ wb _ B ((ge, .cells #[.string sc, .string su, .slice Ak ks.length ck, .slice Aa az.length ca, .nilIface, .nilIface, .bool true] 75 (0, 0)) :: L0) go bp b (((((l ++ px.hdr 42 (3 + ks.length + az.length)) ++ px.blob 36 EVT) ++ px.blob 36 sc) ++ px.blob 36 (NK ks.length)) ++ px.blobs (ks.take i)) lsv hEv ht H (by have e1 := px.hdr_len 42 (3 + ks.length + az.length) (by omega); have e2 := px.blob_len 36 EVT (by decide); have e3 := px.blob_len 36 sc (by omega); have e0 : EVT.size ≤ 7 := (by decide); have e4 := NK_size hks; have e5 := px.blob_len 36 (NK ks.length) (by omega); have e6 := blobs_take (by omega) hk1 i; have e7 := blobs_take (by omega) ha1 j; have e8 := blobs_all (by omega) hk1; (try simp only [List.length_append]); omega) (ks.getD i ByteArray.empty) (by omega)
    refine l_call S rfl rfl Tryz.func54 rfl rfl (hcon) rfl rfl rfl ?_
    rintro e w ⟨rfl, lse12, hEe12, hH⟩
    refine ⟨_, rfl, ?_⟩; clear S a; intro a S
    clear H hcon; have H := hH; clear hH
    replace hEe12 : ms.Env go bp b ((((((l ++ px.hdr 42 (3 + ks.length + az.length)) ++ px.blob 36 EVT) ++ px.blob 36 sc) ++ px.blob 36 (NK ks.length)) ++ px.blobs (ks.take i)) ++ px.blob 36 (ks.getD i ByteArray.empty)) lse12 := hEe12
    refine l_pure S (p_assign rfl) rfl rfl rfl ?_; clear S a; intro a S
    refine l_nil ?_
    refine e_in 1 ?_
    refine e_then ?_
    refine c_region ?_
    refine l_pure S (p_add rfl rfl (nat_add (x := i) (y := 1) (by omega))) rfl rfl rfl ?_; clear S a; intro a S
    refine l_pure S (p_move rfl) rfl rfl rfl ?_; clear S a; intro a S
    refine l_nil ?_
    refine e_then ?_
    have hEnext := hEe12
    exact ⟨⟨i + 1, lse12⟩, ⟨S.only ⟨rfl, rfl, rfl, rfl, rfl, rfl, trivial⟩, H, ⟨by omega, by rw [px.blobs_succ (show i < ks.length by omega), ← List.append_assoc]; exact hEnext⟩⟩, by show ks.length - (i + 1) < ks.length - i; omega⟩
  · skip
    have c11 := bc11
    have c11 := of_decide_eq_false c11
    refine wp_exit ?_
    refine e_then_exit ?_
    refine e_then_exit ?_
    refine e_in_exit ?_
    refine e_then ?_
    refine wp_seq ?_
    refine wp_seq ?_
    refine c_region ?_
    obtain rfl : i = ks.length := by omega
    rw [List.take_of_length_le (Nat.le_refl _)] at hEv
    refine l_pure S (p_move rfl) rfl rfl rfl ?_; clear S a; intro a S
    refine l_pure S (p_nilCheck rfl) rfl rfl rfl ?_; clear S a; intro a S
    refine l_pure S (p_fieldAddr rfl (fun w => fa75_2 w _ _)) rfl rfl rfl ?_; clear S a; intro a S
    refine l_read S H (r_load rfl (List.mem_append_right _ List.mem_cons_self) rfl (fun w hc => ld1 ag22 hc)) rfl rfl rfl ?_; clear S a; intro a S
    refine l_pure S (p_len Tryz.underlying22 rfl) rfl rfl rfl ?_; clear S a; intro a S
    refine l_pure S (p_move rfl) rfl rfl rfl ?_; clear S a; intro a S
    refine l_nil ?_
    refine e_then ?_
    refine wp_block ?_
    refine c_loop (σ := Nat × dc.Bk) (fun s_ a w => match s_ with | ⟨j, lsv⟩ => SL a 120 [] [(0, .pointer (some ⟨ge, 0, none⟩)), (1, .iface 47 (.pointer (some ⟨b, 0, none⟩))), (2, .pointer (some ⟨go, 0, none⟩)), (8, .nilIface), (103, .int .i64 (az.length : Int)), (104, .int .i64 (j : Int))] ∧ HH B wb w (lsv ++ ((ge, .cells #[.string sc, .string su, .slice Ak ks.length ck, .slice Aa az.length ca, .nilIface, .nilIface, .bool true] 75 (0, 0)) :: L0)) ∧ (j ≤ az.length ∧ ms.Env go bp b ((((((l ++ px.hdr 42 (3 + ks.length + az.length)) ++ px.blob 36 EVT) ++ px.blob 36 sc) ++ px.blob 36 (NK ks.length)) ++ px.blobs ks) ++ px.blobs (az.take j)) lsv)) (fun s_ => match s_ with | ⟨j, lsv⟩ => az.length - j) ⟨0, lsv⟩ ⟨S.only ⟨rfl, rfl, rfl, rfl, rfl, rfl, trivial⟩, H, ⟨Nat.zero_le _, by rw [List.take_zero, show px.blobs [] = [] from rfl, List.append_nil]; exact hEv⟩⟩ ?_
    clear S a H; rintro ⟨j, lsv⟩ a w ⟨S, H, hinv⟩
    obtain ⟨hij, hEv⟩ := hinv
    refine wp_seq ?_
    refine c_region ?_
    refine l_pure S (p_lss rfl rfl) rfl rfl rfl ?_; clear S a; intro a S
    refine l_nil ?_
    refine e_then ?_
    refine wp_seq ?_
    refine c_cond S rfl (fun bc14 => ?_) (fun bc14 => ?_)
    · skip
      have c14 := bc14
      have c14 := of_decide_eq_true c14
      refine wp_skip ?_
      refine e_then ?_
      refine wp_seq ?_
      refine wp_block ?_
      refine wp_seq ?_
      refine c_region ?_
      refine l_pure S (p_move rfl) rfl rfl rfl ?_; clear S a; intro a S
      refine l_pure S (p_assign rfl) rfl rfl rfl ?_; clear S a; intro a S
      refine l_nil ?_
      refine e_then ?_
      refine c_region ?_
      refine l_pure S (p_move rfl) rfl rfl rfl ?_; clear S a; intro a S
      refine l_pure S (p_move rfl) rfl rfl rfl ?_; clear S a; intro a S
      refine l_pure S (p_move rfl) rfl rfl rfl ?_; clear S a; intro a S
      refine l_pure S (p_nilCheck rfl) rfl rfl rfl ?_; clear S a; intro a S
      refine l_pure S (p_fieldAddr rfl (fun w => fa75_2 w _ _)) rfl rfl rfl ?_; clear S a; intro a S
      refine l_read S H (r_load rfl (List.mem_append_right _ List.mem_cons_self) rfl (fun w hc => ld1 ag22 hc)) rfl rfl rfl ?_; clear S a; intro a S
      refine l_pure S (p_move rfl) rfl rfl rfl ?_; clear S a; intro a S
      obtain ⟨gk, csk, ek, fk, hA, hmk, hck⟩ := ha j _ (get_some ByteArray.empty (show j < az.length by omega))
      have hsz := ha1 _ (List.mem_of_getElem? (get_some ByteArray.empty (show j < az.length by omega)))
      refine l_pure (v := .pointer (some ⟨gk, j, none⟩)) S (p_indexAddr rfl rfl (fun w => by rw [hA]; have := ia_slice (g := gk) (o := 0) (c := ca) (w := w) Tryz.underlying22 sz9 (k := .i64) (i := (j : Int)) (n := az.length) (by omega) (by omega); simpa using this)) rfl rfl rfl ?_; clear S a; intro a S
      refine l_read S H (r_load rfl (List.mem_append_right _ (List.mem_cons_of_mem _ hmk)) hck (fun w hc => ld1 ag9 hc)) rfl rfl rfl ?_; clear S a; intro a S
      refine l_pure S (p_move rfl) rfl rfl rfl ?_; clear S a; intro a S
      have hcon := ms.mbs_ wb _ B ((ge, .cells #[.string sc, .string su, .slice Ak ks.length ck, .slice Aa az.length ca, .nilIface, .nilIface, .bool true] 75 (0, 0)) :: L0) go bp b ((((((l ++ px.hdr 42 (3 + ks.length + az.length)) ++ px.blob 36 EVT) ++ px.blob 36 sc) ++ px.blob 36 (NK ks.length)) ++ px.blobs ks) ++ px.blobs (az.take j)) lsv hEv ht H (by have e1 := px.hdr_len 42 (3 + ks.length + az.length) (by omega); have e2 := px.blob_len 36 EVT (by decide); have e3 := px.blob_len 36 sc (by omega); have e0 : EVT.size ≤ 7 := (by decide); have e4 := NK_size hks; have e5 := px.blob_len 36 (NK ks.length) (by omega); have e6 := blobs_take (by omega) hk1 i; have e7 := blobs_take (by omega) ha1 j; have e8 := blobs_all (by omega) hk1; (try simp only [List.length_append]); omega) (az.getD j ByteArray.empty) (by omega)
      refine l_call S rfl rfl Tryz.func54 rfl rfl (hcon) rfl rfl rfl ?_
      rintro e w ⟨rfl, lse15, hEe15, hH⟩
      refine ⟨_, rfl, ?_⟩; clear S a; intro a S
      clear H hcon; have H := hH; clear hH
      replace hEe15 : ms.Env go bp b (((((((l ++ px.hdr 42 (3 + ks.length + az.length)) ++ px.blob 36 EVT) ++ px.blob 36 sc) ++ px.blob 36 (NK ks.length)) ++ px.blobs ks) ++ px.blobs (az.take j)) ++ px.blob 36 (az.getD j ByteArray.empty)) lse15 := hEe15
      refine l_pure S (p_assign rfl) rfl rfl rfl ?_; clear S a; intro a S
      refine l_nil ?_
      refine e_in 3 ?_
      refine e_then ?_
      refine c_region ?_
      refine l_pure S (p_add rfl rfl (nat_add (x := j) (y := 1) (by omega))) rfl rfl rfl ?_; clear S a; intro a S
      refine l_pure S (p_move rfl) rfl rfl rfl ?_; clear S a; intro a S
      refine l_nil ?_
      refine e_then ?_
      have hEnext := hEe15
      exact ⟨⟨j + 1, lse15⟩, ⟨S.only ⟨rfl, rfl, rfl, rfl, rfl, rfl, trivial⟩, H, ⟨by omega, by rw [px.blobs_succ (show j < az.length by omega), ← List.append_assoc]; exact hEnext⟩⟩, by show az.length - (j + 1) < az.length - j; omega⟩
    · skip
      have c14 := bc14
      have c14 := of_decide_eq_false c14
      refine wp_exit ?_
      refine e_then_exit ?_
      refine e_then_exit ?_
      refine e_in_exit ?_
      refine e_then ?_
      refine wp_seq ?_
      refine c_region ?_
      obtain rfl : j = az.length := by omega
      rw [List.take_of_length_le (Nat.le_refl _)] at hEv
      refine l_pure S (p_move rfl) rfl rfl rfl ?_; clear S a; intro a S
      refine l_pure S (p_assign rfl) rfl rfl rfl ?_; clear S a; intro a S
      refine l_nil ?_
      refine e_then ?_
      refine wp_ret ?_
      exact r_ret1 S rfl rfl ⟨rfl, lsv, hEv, H⟩
set_option maxHeartbeats 1000000 in
theorem ev_f (wb w0 : World) (B : Nat) (L0 : dc.Bk) (go bp b : Nat) (l : List Int) (ls : dc.Bk) (hE : ms.Env go bp b l ls) (ht : Lib.TabBelow Tryz.prog B wb "internal/strconv.uint64pow10" .u64 Lib.pow10Tab) (hl : l.length ≤ 1000) (ge : Nat) (sc su : ByteArray) (Ak Aa : Option Addr) (ck ca : Nat) (ks az : List ByteArray) (hk : StrRow L0 Ak ks) (ha : StrRow L0 Aa az) (hsc : sc.size ≤ 10000) (hsu : su.size ≤ 10000) (hks : ks.length < 100) (has : az.length < 100) (hk1 : ∀ s ∈ ks, s.size ≤ 1000) (ha1 : ∀ s ∈ az, s.size ≤ 1000) (H : HH B wb w0 (ls ++ ((ge, .cells #[.string sc, .string su, .slice Ak ks.length ck, .slice Aa az.length ca, .nilIface, .nilIface, .bool false] 75 (0, 0)) :: L0))) : Calls Tryz.prog 34 #[.pointer (some ⟨ge, 0, none⟩), .iface 47 (.pointer (some ⟨b, 0, none⟩)), .pointer (some ⟨go, 0, none⟩)] w0 fun e w' => e = .returned .nilIface ∧ ∃ ls', ms.Env go bp b (l ++ px.hdr 42 (3 + ks.length + az.length) ++ px.blob 36 EVSHA ++ px.blob 36 su ++ px.blob 36 (NK ks.length) ++ px.blobs ks ++ px.blobs az) ls' ∧ HH B wb w' (ls' ++ ((ge, .cells #[.string sc, .string su, .slice Ak ks.length ck, .slice Aa az.length ca, .nilIface, .nilIface, .bool false] 75 (0, 0)) :: L0)) := by
  obtain ⟨i, hi0⟩ : ∃ i : Nat, i = 0 := ⟨0, rfl⟩
  obtain ⟨j, hj0⟩ : ∃ j : Nat, j = 0 := ⟨0, rfl⟩
  refine c_enter (args := [.pointer (some ⟨ge, 0, none⟩), .iface 47 (.pointer (some ⟨b, 0, none⟩)), .pointer (some ⟨go, 0, none⟩)]) (k := 117) Tryz.func34 rfl rfl rfl (fun a S => ?_)
  refine wp_seq ?_
  refine c_region ?_
  refine l_pure S (p_assign rfl) rfl rfl rfl ?_; clear S a; intro a S
  refine l_nil ?_
  refine e_then ?_
  refine wp_seq ?_
  refine wp_seq ?_
  refine c_region ?_
  refine l_pure S (p_move rfl) rfl rfl rfl ?_; clear S a; intro a S
  refine l_pure S (p_nilCheck rfl) rfl rfl rfl ?_; clear S a; intro a S
  refine l_pure S (p_fieldAddr rfl (fun w => fa75_4 w _ _)) rfl rfl rfl ?_; clear S a; intro a S
  refine l_read S H (r_load rfl (List.mem_append_right _ List.mem_cons_self) rfl (fun w hc => ld1 ag45 hc)) rfl rfl rfl ?_; clear S a; intro a S
  refine l_pure S (p_nilnilN mi45 rfl) rfl rfl rfl ?_; clear S a; intro a S
  refine l_nil ?_
  refine e_then ?_
  refine c_cond (b := false) S rfl (fun h => by cases h) (fun _ => ?_)
  refine wp_skip ?_
  refine e_then ?_
  refine wp_seq ?_
  refine d_start (id := 3) [14] 15 #[false, false, false, false, false, false, false, false, false, false, false, false, false, false, false] H rfl rfl rfl (fun w H => ?_)
  refine d_pure (i := 0) #[true, false, false, false, false, false, false, false, false, false, false, false, false, false, false] S rfl (p_move rfl) (wanted_none rfl) rfl rfl (by kernel_rfl) (fun _ _ _ h => h) ?_; clear S a; intro a S
  refine d_pure (i := 1) #[true, true, false, false, false, false, false, false, false, false, false, false, false, false, false] S rfl (p_nilCheck rfl) (wanted_none rfl) rfl rfl (by kernel_rfl) (fun _ _ _ h => h) ?_; clear S a; intro a S
  refine d_pure (i := 2) #[true, true, true, false, false, false, false, false, false, false, false, false, false, false, false] S rfl (p_fieldAddr rfl (fun w => fa75_1 w _ _)) (wanted_none rfl) rfl rfl (by kernel_rfl) (fun _ _ _ h => h) ?_; clear S a; intro a S
  refine d_read (i := 3) #[true, true, true, true, false, false, false, false, false, false, false, false, false, false, false] S H rfl (r_load rfl (List.mem_append_right _ List.mem_cons_self) rfl (fun w hc => ld1 ag22 hc)) (wanted_none rfl) rfl rfl (by kernel_rfl) (fun _ _ _ h => h) ?_; clear S a; intro a S
  refine d_pure (i := 4) #[true, true, true, true, true, false, false, false, false, false, false, false, false, false, false] S rfl (p_len Tryz.underlying22 rfl) (wanted_none rfl) rfl rfl (by kernel_rfl) (fun _ _ _ h => h) ?_; clear S a; intro a S
  refine d_pure (i := 5) #[true, true, true, true, true, true, false, false, false, false, false, false, false, false, false] S rfl (p_add rfl rfl (nat_add (x := 3) (y := ks.length) (by omega))) (wanted_none rfl) rfl rfl (by kernel_rfl) (fun _ _ _ h => h) ?_; clear S a; intro a S
  refine d_pure (i := 6) #[true, true, true, true, true, true, true, false, false, false, false, false, false, false, false] S rfl (p_move rfl) (wanted_none rfl) rfl rfl (by kernel_rfl) (fun _ _ _ h => h) ?_; clear S a; intro a S
  refine d_pure (i := 7) #[true, true, true, true, true, true, true, true, false, false, false, false, false, false, false] S rfl (p_nilCheck rfl) (wanted_none rfl) rfl rfl (by kernel_rfl) (fun _ _ _ h => h) ?_; clear S a; intro a S
  refine d_pure (i := 8) #[true, true, true, true, true, true, true, true, true, false, false, false, false, false, false] S rfl (p_fieldAddr rfl (fun w => fa75_2 w _ _)) (wanted_none rfl) rfl rfl (by kernel_rfl) (fun _ _ _ h => h) ?_; clear S a; intro a S
  refine d_read (i := 9) #[true, true, true, true, true, true, true, true, true, true, false, false, false, false, false] S H rfl (r_load rfl (List.mem_append_right _ List.mem_cons_self) rfl (fun w hc => ld1 ag22 hc)) (wanted_none rfl) rfl rfl (by kernel_rfl) (fun _ _ _ h => h) ?_; clear S a; intro a S
  refine d_pure (i := 10) #[true, true, true, true, true, true, true, true, true, true, true, false, false, false, false] S rfl (p_len Tryz.underlying22 rfl) (wanted_none rfl) rfl rfl (by kernel_rfl) (fun _ _ _ h => h) ?_; clear S a; intro a S
  refine d_pure (i := 11) #[true, true, true, true, true, true, true, true, true, true, true, true, false, false, false] S rfl (p_add rfl rfl (nat_add (x := (3 + ks.length)) (y := az.length) (by omega))) (wanted_none rfl) rfl rfl (by kernel_rfl) (fun _ _ _ h => h) ?_; clear S a; intro a S
  refine d_pure (i := 12) #[true, true, true, true, true, true, true, true, true, true, true, true, true, false, false] S rfl (p_bld (ps := [(0, .tmp 31)]) rfl (bld136_0 _)) (wanted_none rfl) rfl rfl (by kernel_rfl) (fun _ _ _ h => h) ?_; clear S a; intro a S
  refine d_alloc (i := 13) (cs := #[.int .i64 0, .bool false]) #[true, true, true, true, true, true, true, true, true, true, true, true, true, true, false] S (.refl _) H rfl rfl (fun w => al zv136) (wanted_none rfl) rfl rfl (by kernel_rfl) rfl ?_; clear S a H; intro g3 w a H S
  refine d_storeAll (i := 14) (vs := [.int .i64 ((((3 + ks.length) + az.length) : Nat) : Int), .bool false]) #[true, true, true, true, true, true, true, true, true, true, true, true, true, true, true] S H rfl rfl rfl rfl sz136 .here rfl (fun v hv => by simp only [List.mem_cons, List.not_mem_nil, or_false] at hv; rcases hv with rfl | rfl <;> rfl) (wanted_none rfl) rfl (by kernel_rfl) rfl ?_; clear S a H; intro w a H S
  refine d_done (by kernel_rfl) ?_
  refine e_then ?_
  refine wp_seq ?_
  refine c_region ?_
  refine l_read S H (r_loadn (m := 2) (vs := [.int .i64 ((((3 + ks.length) + az.length) : Nat) : Int), .bool false]) rfl List.mem_cons_self ag136 sz136 rfl rfl) rfl rfl rfl ?_; clear S a; intro a S
  refine l_pure S (p_move rfl) rfl rfl rfl ?_; clear S a; intro a S
  refine l_pure S (p_move rfl) rfl rfl rfl ?_; clear S a; intro a S
  replace H : HH B wb _ ((g3, .cells #[.int .i64 ((((3 + ks.length) + az.length) : Nat) : Int), .bool false] 136 (0, 0)) :: (ls ++ ((ge, .cells #[.string sc, .string su, .slice Ak ks.length ck, .slice Aa az.length ca, .nilIface, .nilIface, .bool false] 75 (0, 0)) :: L0))) := H
  replace H : HH B wb _ (ls ++ ((g3, .cells #[.int .i64 ((((3 + ks.length) + az.length) : Nat) : Int), .bool false] 136 (0, 0)) :: ((ge, .cells #[.string sc, .string su, .slice Ak ks.length ck, .slice Aa az.length ca, .nilIface, .nilIface, .bool false] 75 (0, 0)) :: L0))) := HH.app (HH.front (L1 := [(g3, .cells #[.int .i64 ((((3 + ks.length) + az.length) : Nat) : Int), .bool false] 136 (0, 0))]) (S := ls) (L2 := ((ge, .cells #[.string sc, .string su, .slice Ak ks.length ck, .slice Aa az.length ca, .nilIface, .nilIface, .bool false] 75 (0, 0)) :: L0)) (HH.app H (by simp))) (by simp)
  have hcon := ms.arh_ wb _ B ((g3, .cells #[.int .i64 ((((3 + ks.length) + az.length) : Nat) : Int), .bool false] 136 (0, 0)) :: ((ge, .cells #[.string sc, .string su, .slice Ak ks.length ck, .slice Aa az.length ca, .nilIface, .nilIface, .bool false] 75 (0, 0)) :: L0)) go bp b l ls hE ht H (by have e1 := px.hdr_len 42 (3 + ks.length + az.length) (by omega); have e2 := px.blob_len 36 EVSHA (by decide); have e3 := px.blob_len 36 su (by omega); have e0 : EVSHA.size ≤ 7 := (by decide); have e4 := NK_size hks; have e5 := px.blob_len 36 (NK ks.length) (by omega); have e6 := blobs_take (by omega) hk1 i; have e7 := blobs_take (by omega) ha1 j; have e8 := blobs_all (by omega) hk1; (try simp only [List.length_append]); omega) (3 + ks.length + az.length) (by omega)
  refine l_call S rfl rfl Tryz.func51 rfl rfl (hcon) rfl rfl rfl ?_
  rintro e w ⟨rfl, lse4, hEe4, hH⟩
  refine ⟨_, rfl, ?_⟩; clear S a; intro a S
  clear H hcon; have H := hH; clear hH
  replace hEe4 : ms.Env go bp b (l ++ px.hdr 42 (3 + ks.length + az.length)) lse4 := hEe4
  refine l_pure S (p_assign rfl) rfl rfl rfl ?_; clear S a; intro a S
  refine l_nil ?_
  refine e_then ?_
  refine wp_seq ?_
  refine wp_seq ?_
  refine c_region ?_
  refine l_pure S (p_move rfl) rfl rfl rfl ?_; clear S a; intro a S
  refine l_pure S (p_nilCheck rfl) rfl rfl rfl ?_; clear S a; intro a S
  refine l_pure S (p_fieldAddr rfl (fun w => fa75_5 w _ _)) rfl rfl rfl ?_; clear S a; intro a S
  refine l_read S H (r_load rfl (List.mem_append_right _ (List.mem_cons_of_mem _ List.mem_cons_self)) rfl (fun w hc => ld1 ag4 hc)) rfl rfl rfl ?_; clear S a; intro a S
  refine l_nil ?_
  refine e_then ?_
  refine c_cond (b := false) S rfl (fun h => by cases h) (fun _ => ?_)
  refine wp_seq ?_
  refine c_region ?_
  refine l_pure S (p_move rfl) rfl rfl rfl ?_; clear S a; intro a S
  refine l_pure S (p_move rfl) rfl rfl rfl ?_; clear S a; intro a S
  have hcon := ms.evalsha_ wb _ B _ H
  refine l_call S rfl rfl Tryz.func55 rfl rfl (hcon) rfl rfl rfl ?_
  rintro e w ⟨gd, rfl, hH⟩
  refine ⟨_, rfl, ?_⟩; clear S a; intro a S
  clear H hcon; have H := hH; clear hH
  refine l_pure S (p_move rfl) rfl rfl rfl ?_; clear S a; intro a S
  replace H : HH B wb _ ((gd, .cells #[.int .u8 69, .int .u8 86, .int .u8 65, .int .u8 76, .int .u8 83, .int .u8 72, .int .u8 65] 5 (7, 8)) :: (lse4 ++ ((g3, .cells #[.int .i64 ((((3 + ks.length) + az.length) : Nat) : Int), .bool false] 136 (0, 0)) :: ((ge, .cells #[.string sc, .string su, .slice Ak ks.length ck, .slice Aa az.length ca, .nilIface, .nilIface, .bool false] 75 (0, 0)) :: L0)))) := H
  replace H : HH B wb _ (lse4 ++ ((gd, .cells #[.int .u8 69, .int .u8 86, .int .u8 65, .int .u8 76, .int .u8 83, .int .u8 72, .int .u8 65] 5 (7, 8)) :: ((g3, .cells #[.int .i64 ((((3 + ks.length) + az.length) : Nat) : Int), .bool false] 136 (0, 0)) :: ((ge, .cells #[.string sc, .string su, .slice Ak ks.length ck, .slice Aa az.length ca, .nilIface, .nilIface, .bool false] 75 (0, 0)) :: L0)))) := HH.app (HH.front (L1 := [(gd, .cells #[.int .u8 69, .int .u8 86, .int .u8 65, .int .u8 76, .int .u8 83, .int .u8 72, .int .u8 65] 5 (7, 8))]) (S := lse4) (L2 := ((g3, .cells #[.int .i64 ((((3 + ks.length) + az.length) : Nat) : Int), .bool false] 136 (0, 0)) :: ((ge, .cells #[.string sc, .string su, .slice Ak ks.length ck, .slice Aa az.length ca, .nilIface, .nilIface, .bool false] 75 (0, 0)) :: L0))) (HH.app H (by simp))) (by simp)
  have hcon := ms.mbsb_ wb _ B ((gd, .cells #[.int .u8 69, .int .u8 86, .int .u8 65, .int .u8 76, .int .u8 83, .int .u8 72, .int .u8 65] 5 (7, 8)) :: ((g3, .cells #[.int .i64 ((((3 + ks.length) + az.length) : Nat) : Int), .bool false] 136 (0, 0)) :: ((ge, .cells #[.string sc, .string su, .slice Ak ks.length ck, .slice Aa az.length ca, .nilIface, .nilIface, .bool false] 75 (0, 0)) :: L0))) go bp b (l ++ px.hdr 42 (3 + ks.length + az.length)) lse4 hEe4 ht H (by have e1 := px.hdr_len 42 (3 + ks.length + az.length) (by omega); have e2 := px.blob_len 36 EVSHA (by decide); have e3 := px.blob_len 36 su (by omega); have e0 : EVSHA.size ≤ 7 := (by decide); have e4 := NK_size hks; have e5 := px.blob_len 36 (NK ks.length) (by omega); have e6 := blobs_take (by omega) hk1 i; have e7 := blobs_take (by omega) ha1 j; have e8 := blobs_all (by omega) hk1; (try simp only [List.length_append]); omega) gd 0 7 _ _ [69, 86, 65, 76, 83, 72, 65] List.mem_cons_self evsha_row (by decide)
  refine l_call S rfl rfl Tryz.func52 rfl rfl (hcon) rfl rfl rfl ?_
  rintro e w ⟨rfl, lse7, hEe7, hH⟩
  refine ⟨_, rfl, ?_⟩; clear S a; intro a S
  clear H hcon; have H := hH; clear hH
  replace hEe7 : ms.Env go bp b ((l ++ px.hdr 42 (3 + ks.length + az.length)) ++ (36 :: (wq.dec 7 ++ [13, 10] ++ [69, 86, 65, 76, 83, 72, 65] ++ [13, 10]))) lse7 := hEe7
  rw [← evsha_blob] at hEe7
  replace H : HH B wb _ (lse7 ++ ((ge, .cells #[.string sc, .string su, .slice Ak ks.length ck, .slice Aa az.length ca, .nilIface, .nilIface, .bool false] 75 (0, 0)) :: L0)) := H.sub (List.Sublist.append (.refl _) (.cons _ (.cons _ (.cons_cons _ (.refl _)))))
  refine l_pure S (p_assign rfl) rfl rfl rfl ?_; clear S a; intro a S
  refine l_nil ?_
  refine e_then ?_
  refine c_region ?_
  refine l_pure S (p_move rfl) rfl rfl rfl ?_; clear S a; intro a S
  refine l_pure S (p_move rfl) rfl rfl rfl ?_; clear S a; intro a S
  refine l_pure S (p_move rfl) rfl rfl rfl ?_; clear S a; intro a S
  refine l_pure S (p_nilCheck rfl) rfl rfl rfl ?_; clear S a; intro a S
  refine l_pure S (p_fieldAddr rfl (fun w => fa75_0 w _ _)) rfl rfl rfl ?_; clear S a; intro a S
  refine l_pure S (p_fieldAddr rfl (fun w => fa72_1 w _ _)) rfl rfl rfl ?_; clear S a; intro a S
  refine l_read S H (r_load rfl (List.mem_append_right _ List.mem_cons_self) rfl (fun w hc => ld1 ag9 hc)) rfl rfl rfl ?_; clear S a; intro a S
  refine l_pure S (p_move rfl) rfl rfl rfl ?_; clear S a; intro a S
  have hcon := ms.mbs_ wb _ B ((ge, .cells #[.string sc, .string su, .slice Ak ks.length ck, .slice Aa az.length ca, .nilIface, .nilIface, .bool false] 75 (0, 0)) :: L0) go bp b ((l ++ px.hdr 42 (3 + ks.length + az.length)) ++ px.blob 36 EVSHA) lse7 hEe7 ht H (by have e1 := px.hdr_len 42 (3 + ks.length + az.length) (by omega); have e2 := px.blob_len 36 EVSHA (by decide); have e3 := px.blob_len 36 su (by omega); have e0 : EVSHA.size ≤ 7 := (by decide); have e4 := NK_size hks; have e5 := px.blob_len 36 (NK ks.length) (by omega); have e6 := blobs_take (by omega) hk1 i; have e7 := blobs_take (by omega) ha1 j; have e8 := blobs_all (by omega) hk1; (try simp only [List.length_append]); omega) su (by omega)
  refine l_call S rfl rfl Tryz.func54 rfl rfl (hcon) rfl rfl rfl ?_
  rintro e w ⟨rfl, lse8, hEe8, hH⟩
  refine ⟨_, rfl, ?_⟩; clear S a; intro a S
  clear H hcon; have H := hH; clear hH
  replace hEe8 : ms.Env go bp b (((l ++ px.hdr 42 (3 + ks.length + az.length)) ++ px.blob 36 EVSHA) ++ px.blob 36 su) lse8 := hEe8
  refine l_pure S (p_assign rfl) rfl rfl rfl ?_; clear S a; intro a S
  refine l_nil ?_
  refine e_then ?_
  refine wp_seq ?_
  refine c_region ?_
  refine l_pure S (p_move rfl) rfl rfl rfl ?_; clear S a; intro a S
  refine l_pure S (p_move rfl) rfl rfl rfl ?_; clear S a; intro a S
  refine l_pure S (p_move rfl) rfl rfl rfl ?_; clear S a; intro a S
  refine l_pure S (p_nilCheck rfl) rfl rfl rfl ?_; clear S a; intro a S
  refine l_pure S (p_fieldAddr rfl (fun w => fa75_1 w _ _)) rfl rfl rfl ?_; clear S a; intro a S
  refine l_read S H (r_load rfl (List.mem_append_right _ List.mem_cons_self) rfl (fun w hc => ld1 ag22 hc)) rfl rfl rfl ?_; clear S a; intro a S
  refine l_pure S (p_len Tryz.underlying22 rfl) rfl rfl rfl ?_; clear S a; intro a S
  have hcon := nm.itoa_ wb _ B _ ks.length hks H
  refine l_call S rfl rfl Tryz.func56 rfl rfl (hcon) rfl rfl rfl ?_
  rintro e w ⟨rfl, hH⟩
  refine ⟨_, rfl, ?_⟩; clear S a; intro a S
  clear H hcon; have H := hH; clear hH
  change SL a _ _ ((_, .string (NK ks.length)) :: _) at S
  refine l_pure S (p_move rfl) rfl rfl rfl ?_; clear S a; intro a S
  have hcon := ms.mbs_ wb _ B ((ge, .cells #[.string sc, .string su, .slice Ak ks.length ck, .slice Aa az.length ca, .nilIface, .nilIface, .bool false] 75 (0, 0)) :: L0) go bp b (((l ++ px.hdr 42 (3 + ks.length + az.length)) ++ px.blob 36 EVSHA) ++ px.blob 36 su) lse8 hEe8 ht H (by have e1 := px.hdr_len 42 (3 + ks.length + az.length) (by omega); have e2 := px.blob_len 36 EVSHA (by decide); have e3 := px.blob_len 36 su (by omega); have e0 : EVSHA.size ≤ 7 := (by decide); have e4 := NK_size hks; have e5 := px.blob_len 36 (NK ks.length) (by omega); have e6 := blobs_take (by omega) hk1 i; have e7 := blobs_take (by omega) ha1 j; have e8 := blobs_all (by omega) hk1; (try simp only [List.length_append]); omega) (NK ks.length) (by have := NK_size hks; omega)
  refine l_call S rfl rfl Tryz.func54 rfl rfl (hcon) rfl rfl rfl ?_
  rintro e w ⟨rfl, lse9, hEe9, hH⟩
  refine ⟨_, rfl, ?_⟩; clear S a; intro a S
  clear H hcon; have H := hH; clear hH
  replace hEe9 : ms.Env go bp b ((((l ++ px.hdr 42 (3 + ks.length + az.length)) ++ px.blob 36 EVSHA) ++ px.blob 36 su) ++ px.blob 36 (NK ks.length)) lse9 := hEe9
  refine l_pure S (p_assign rfl) rfl rfl rfl ?_; clear S a; intro a S
  refine l_nil ?_
  refine e_then ?_
  refine wp_seq ?_
  refine wp_seq ?_
  refine c_region ?_
  refine l_pure S (p_move rfl) rfl rfl rfl ?_; clear S a; intro a S
  refine l_pure S (p_nilCheck rfl) rfl rfl rfl ?_; clear S a; intro a S
  refine l_pure S (p_fieldAddr rfl (fun w => fa75_1 w _ _)) rfl rfl rfl ?_; clear S a; intro a S
  refine l_read S H (r_load rfl (List.mem_append_right _ List.mem_cons_self) rfl (fun w hc => ld1 ag22 hc)) rfl rfl rfl ?_; clear S a; intro a S
  refine l_pure S (p_len Tryz.underlying22 rfl) rfl rfl rfl ?_; clear S a; intro a S
  refine l_pure S (p_move rfl) rfl rfl rfl ?_; clear S a; intro a S
  refine l_nil ?_
  refine e_then ?_
  refine wp_block ?_
  refine c_loop (σ := Nat × dc.Bk) (fun s_ a w => match s_ with | ⟨i, lsv⟩ => SL a 120 [] [(0, .pointer (some ⟨ge, 0, none⟩)), (1, .iface 47 (.pointer (some ⟨b, 0, none⟩))), (2, .pointer (some ⟨go, 0, none⟩)), (8, .nilIface), (83, .int .i64 (ks.length : Int)), (84, .int .i64 (i : Int))] ∧ HH B wb w (lsv ++ ((ge, .cells #[.string sc, .string su, .slice Ak ks.length ck, .slice Aa az.length ca, .nilIface, .nilIface, .bool false] 75 (0, 0)) :: L0)) ∧ (i ≤ ks.length ∧ ms.Env go bp b (((((l ++ px.hdr 42 (3 + ks.length + az.length)) ++ px.blob 36 EVSHA) ++ px.blob 36 su) ++ px.blob 36 (NK ks.length)) ++ px.blobs (ks.take i)) lsv)) (fun s_ => match s_ with | ⟨i, lsv⟩ => ks.length - i) ⟨0, lse9⟩ ⟨S.only ⟨rfl, rfl, rfl, rfl, rfl, rfl, trivial⟩, H, ⟨Nat.zero_le _, by rw [List.take_zero, show px.blobs [] = [] from rfl, List.append_nil]; exact hEe9⟩⟩ ?_
  clear S a H; rintro ⟨i, lsv⟩ a w ⟨S, H, hinv⟩
  obtain ⟨hii, hEv⟩ := hinv
  refine wp_seq ?_
  refine c_region ?_
  refine l_pure S (p_lss rfl rfl) rfl rfl rfl ?_; clear S a; intro a S
  refine l_nil ?_
  refine e_then ?_
  refine wp_seq ?_
  refine c_cond S rfl (fun bc11 => ?_) (fun bc11 => ?_)
  · skip
    have c11 := bc11
    have c11 := of_decide_eq_true c11
    refine wp_skip ?_
    refine e_then ?_
    refine wp_seq ?_
    refine wp_block ?_
    refine wp_seq ?_
    refine c_region ?_
    refine l_pure S (p_move rfl) rfl rfl rfl ?_; clear S a; intro a S
    refine l_pure S (p_assign rfl) rfl rfl rfl ?_; clear S a; intro a S
    refine l_nil ?_
    refine e_then ?_
    refine c_region ?_
    refine l_pure S (p_move rfl) rfl rfl rfl ?_; clear S a; intro a S
    refine l_pure S (p_move rfl) rfl rfl rfl ?_; clear S a; intro a S
    refine l_pure S (p_move rfl) rfl rfl rfl ?_; clear S a; intro a S
    refine l_pure S (p_nilCheck rfl) rfl rfl rfl ?_; clear S a; intro a S
    refine l_pure S (p_fieldAddr rfl (fun w => fa75_1 w _ _)) rfl rfl rfl ?_; clear S a; intro a S
    refine l_read S H (r_load rfl (List.mem_append_right _ List.mem_cons_self) rfl (fun w hc => ld1 ag22 hc)) rfl rfl rfl ?_; clear S a; intro a S
    refine l_pure S (p_move rfl) rfl rfl rfl ?_; clear S a; intro a S
    obtain ⟨gk, csk, ek, fk, hA, hmk, hck⟩ := hk i _ (get_some ByteArray.empty (show i < ks.length by omega))
    have hsz := hk1 _ (List.mem_of_getElem? (get_some ByteArray.empty (show i < ks.length by omega)))
    refine l_pure (v := .pointer (some ⟨gk, i, none⟩)) S (p_indexAddr rfl rfl (fun w => by rw [hA]; have := ia_slice (g := gk) (o := 0) (c := ck) (w := w) Tryz.underlying22 sz9 (k := .i64) (i := (i : Int)) (n := ks.length) (by omega) (by omega); simpa using this)) rfl rfl rfl ?_; clear S a; intro a S
    refine l_read S H (r_load rfl (List.mem_append_right _ (List.mem_cons_of_mem _ hmk)) hck (fun w hc => ld1 ag9 hc)) rfl rfl rfl ?_; clear S a; intro a S
    refine l_pure S (p_move rfl) rfl rfl rfl ?_; clear S a; intro a S
    have hcon := ms.mbs_ wb _ B ((ge, .cells #[.string sc, .string su, .slice Ak ks.length ck, .slice Aa az.length ca, .nilIface, .nilIface, .bool false] 75 (0, 0)) :: L0) go bp b (((((l ++ px.hdr 42 (3 + ks.length + az.length)) ++ px.blob 36 EVSHA) ++ px.blob 36 su) ++ px.blob 36 (NK ks.length)) ++ px.blobs (ks.take i)) lsv hEv ht H (by have e1 := px.hdr_len 42 (3 + ks.length + az.length) (by omega); have e2 := px.blob_len 36 EVSHA (by decide); have e3 := px.blob_len 36 su (by omega); have e0 : EVSHA.size ≤ 7 := (by decide); have e4 := NK_size hks; have e5 := px.blob_len 36 (NK ks.length) (by omega); have e6 := blobs_take (by omega) hk1 i; have e7 := blobs_take (by omega) ha1 j; have e8 := blobs_all (by omega) hk1; (try simp only [List.length_append]); omega) (ks.getD i ByteArray.empty) (by omega)
    refine l_call S rfl rfl Tryz.func54 rfl rfl (hcon) rfl rfl rfl ?_
    rintro e w ⟨rfl, lse12, hEe12, hH⟩
    refine ⟨_, rfl, ?_⟩; clear S a; intro a S
    clear H hcon; have H := hH; clear hH
    replace hEe12 : ms.Env go bp b ((((((l ++ px.hdr 42 (3 + ks.length + az.length)) ++ px.blob 36 EVSHA) ++ px.blob 36 su) ++ px.blob 36 (NK ks.length)) ++ px.blobs (ks.take i)) ++ px.blob 36 (ks.getD i ByteArray.empty)) lse12 := hEe12
    refine l_pure S (p_assign rfl) rfl rfl rfl ?_; clear S a; intro a S
    refine l_nil ?_
    refine e_in 1 ?_
    refine e_then ?_
    refine c_region ?_
    refine l_pure S (p_add rfl rfl (nat_add (x := i) (y := 1) (by omega))) rfl rfl rfl ?_; clear S a; intro a S
    refine l_pure S (p_move rfl) rfl rfl rfl ?_; clear S a; intro a S
    refine l_nil ?_
    refine e_then ?_
    have hEnext := hEe12
    exact ⟨⟨i + 1, lse12⟩, ⟨S.only ⟨rfl, rfl, rfl, rfl, rfl, rfl, trivial⟩, H, ⟨by omega, by rw [px.blobs_succ (show i < ks.length by omega), ← List.append_assoc]; exact hEnext⟩⟩, by show ks.length - (i + 1) < ks.length - i; omega⟩
  · skip
    have c11 := bc11
    have c11 := of_decide_eq_false c11
    refine wp_exit ?_
    refine e_then_exit ?_
    refine e_then_exit ?_
    refine e_in_exit ?_
    refine e_then ?_
    refine wp_seq ?_
    refine wp_seq ?_
    refine c_region ?_
    obtain rfl : i = ks.length := by omega
    rw [List.take_of_length_le (Nat.le_refl _)] at hEv
    refine l_pure S (p_move rfl) rfl rfl rfl ?_; clear S a; intro a S
    refine l_pure S (p_nilCheck rfl) rfl rfl rfl ?_; clear S a; intro a S
    refine l_pure S (p_fieldAddr rfl (fun w => fa75_2 w _ _)) rfl rfl rfl ?_; clear S a; intro a S
    refine l_read S H (r_load rfl (List.mem_append_right _ List.mem_cons_self) rfl (fun w hc => ld1 ag22 hc)) rfl rfl rfl ?_; clear S a; intro a S
    refine l_pure S (p_len Tryz.underlying22 rfl) rfl rfl rfl ?_; clear S a; intro a S
    refine l_pure S (p_move rfl) rfl rfl rfl ?_; clear S a; intro a S
    refine l_nil ?_
    refine e_then ?_
    refine wp_block ?_
    refine c_loop (σ := Nat × dc.Bk) (fun s_ a w => match s_ with | ⟨j, lsv⟩ => SL a 120 [] [(0, .pointer (some ⟨ge, 0, none⟩)), (1, .iface 47 (.pointer (some ⟨b, 0, none⟩))), (2, .pointer (some ⟨go, 0, none⟩)), (8, .nilIface), (103, .int .i64 (az.length : Int)), (104, .int .i64 (j : Int))] ∧ HH B wb w (lsv ++ ((ge, .cells #[.string sc, .string su, .slice Ak ks.length ck, .slice Aa az.length ca, .nilIface, .nilIface, .bool false] 75 (0, 0)) :: L0)) ∧ (j ≤ az.length ∧ ms.Env go bp b ((((((l ++ px.hdr 42 (3 + ks.length + az.length)) ++ px.blob 36 EVSHA) ++ px.blob 36 su) ++ px.blob 36 (NK ks.length)) ++ px.blobs ks) ++ px.blobs (az.take j)) lsv)) (fun s_ => match s_ with | ⟨j, lsv⟩ => az.length - j) ⟨0, lsv⟩ ⟨S.only ⟨rfl, rfl, rfl, rfl, rfl, rfl, trivial⟩, H, ⟨Nat.zero_le _, by rw [List.take_zero, show px.blobs [] = [] from rfl, List.append_nil]; exact hEv⟩⟩ ?_
    clear S a H; rintro ⟨j, lsv⟩ a w ⟨S, H, hinv⟩
    obtain ⟨hij, hEv⟩ := hinv
    refine wp_seq ?_
    refine c_region ?_
    refine l_pure S (p_lss rfl rfl) rfl rfl rfl ?_; clear S a; intro a S
    refine l_nil ?_
    refine e_then ?_
    refine wp_seq ?_
    refine c_cond S rfl (fun bc14 => ?_) (fun bc14 => ?_)
    · skip
      have c14 := bc14
      have c14 := of_decide_eq_true c14
      refine wp_skip ?_
      refine e_then ?_
      refine wp_seq ?_
      refine wp_block ?_
      refine wp_seq ?_
      refine c_region ?_
      refine l_pure S (p_move rfl) rfl rfl rfl ?_; clear S a; intro a S
      refine l_pure S (p_assign rfl) rfl rfl rfl ?_; clear S a; intro a S
      refine l_nil ?_
      refine e_then ?_
      refine c_region ?_
      refine l_pure S (p_move rfl) rfl rfl rfl ?_; clear S a; intro a S
      refine l_pure S (p_move rfl) rfl rfl rfl ?_; clear S a; intro a S
      refine l_pure S (p_move rfl) rfl rfl rfl ?_; clear S a; intro a S
      refine l_pure S (p_nilCheck rfl) rfl rfl rfl ?_; clear S a; intro a S
      refine l_pure S (p_fieldAddr rfl (fun w => fa75_2 w _ _)) rfl rfl rfl ?_; clear S a; intro a S
      refine l_read S H (r_load rfl (List.mem_append_right _ List.mem_cons_self) rfl (fun w hc => ld1 ag22 hc)) rfl rfl rfl ?_; clear S a; intro a S
      refine l_pure S (p_move rfl) rfl rfl rfl ?_; clear S a; intro a S
      obtain ⟨gk, csk, ek, fk, hA, hmk, hck⟩ := ha j _ (get_some ByteArray.empty (show j < az.length by omega))
      have hsz := ha1 _ (List.mem_of_getElem? (get_some ByteArray.empty (show j < az.length by omega)))
      refine l_pure (v := .pointer (some ⟨gk, j, none⟩)) S (p_indexAddr rfl rfl (fun w => by rw [hA]; have := ia_slice (g := gk) (o := 0) (c := ca) (w := w) Tryz.underlying22 sz9 (k := .i64) (i := (j : Int)) (n := az.length) (by omega) (by omega); simpa using this)) rfl rfl rfl ?_; clear S a; intro a S
      refine l_read S H (r_load rfl (List.mem_append_right _ (List.mem_cons_of_mem _ hmk)) hck (fun w hc => ld1 ag9 hc)) rfl rfl rfl ?_; clear S a; intro a S
      refine l_pure S (p_move rfl) rfl rfl rfl ?_; clear S a; intro a S
      have hcon := ms.mbs_ wb _ B ((ge, .cells #[.string sc, .string su, .slice Ak ks.length ck, .slice Aa az.length ca, .nilIface, .nilIface, .bool false] 75 (0, 0)) :: L0) go bp b ((((((l ++ px.hdr 42 (3 + ks.length + az.length)) ++ px.blob 36 EVSHA) ++ px.blob 36 su) ++ px.blob 36 (NK ks.length)) ++ px.blobs ks) ++ px.blobs (az.take j)) lsv hEv ht H (by have e1 := px.hdr_len 42 (3 + ks.length + az.length) (by omega); have e2 := px.blob_len 36 EVSHA (by decide); have e3 := px.blob_len 36 su (by omega); have e0 : EVSHA.size ≤ 7 := (by decide); have e4 := NK_size hks; have e5 := px.blob_len 36 (NK ks.length) (by omega); have e6 := blobs_take (by omega) hk1 i; have e7 := blobs_take (by omega) ha1 j; have e8 := blobs_all (by omega) hk1; (try simp only [List.length_append]); omega) (az.getD j ByteArray.empty) (by omega)
      refine l_call S rfl rfl Tryz.func54 rfl rfl (hcon) rfl rfl rfl ?_
      rintro e w ⟨rfl, lse15, hEe15, hH⟩
      refine ⟨_, rfl, ?_⟩; clear S a; intro a S
      clear H hcon; have H := hH; clear hH
      replace hEe15 : ms.Env go bp b (((((((l ++ px.hdr 42 (3 + ks.length + az.length)) ++ px.blob 36 EVSHA) ++ px.blob 36 su) ++ px.blob 36 (NK ks.length)) ++ px.blobs ks) ++ px.blobs (az.take j)) ++ px.blob 36 (az.getD j ByteArray.empty)) lse15 := hEe15
      refine l_pure S (p_assign rfl) rfl rfl rfl ?_; clear S a; intro a S
      refine l_nil ?_
      refine e_in 3 ?_
      refine e_then ?_
      refine c_region ?_
      refine l_pure S (p_add rfl rfl (nat_add (x := j) (y := 1) (by omega))) rfl rfl rfl ?_; clear S a; intro a S
      refine l_pure S (p_move rfl) rfl rfl rfl ?_; clear S a; intro a S
      refine l_nil ?_
      refine e_then ?_
      have hEnext := hEe15
      exact ⟨⟨j + 1, lse15⟩, ⟨S.only ⟨rfl, rfl, rfl, rfl, rfl, rfl, trivial⟩, H, ⟨by omega, by rw [px.blobs_succ (show j < az.length by omega), ← List.append_assoc]; exact hEnext⟩⟩, by show az.length - (j + 1) < az.length - j; omega⟩
    · skip
      have c14 := bc14
      have c14 := of_decide_eq_false c14
      refine wp_exit ?_
      refine e_then_exit ?_
      refine e_then_exit ?_
      refine e_in_exit ?_
      refine e_then ?_
      refine wp_seq ?_
      refine c_region ?_
      obtain rfl : j = az.length := by omega
      rw [List.take_of_length_le (Nat.le_refl _)] at hEv
      refine l_pure S (p_move rfl) rfl rfl rfl ?_; clear S a; intro a S
      refine l_pure S (p_assign rfl) rfl rfl rfl ?_; clear S a; intro a S
      refine l_nil ?_
      refine e_then ?_
      refine wp_ret ?_
      exact r_ret1 S rfl rfl ⟨rfl, lsv, hEv, H⟩
end ev
end Go.Proofs.YtnmelglnkefjfaaGreatDoor.wr
