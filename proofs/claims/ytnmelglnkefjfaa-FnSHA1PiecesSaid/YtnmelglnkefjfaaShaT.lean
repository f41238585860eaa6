/- FnSHA1Pieces: the law, walked. -/
import Derived.Test.YtnmelglnkefjfaaShaP
import Derived.Test.YtnmelglnkefjfaaShaS
import Derived.Test.YtnmelglnkefjfaaSv
import Derived.Test.YtnmelglnkefjfaaPFnSHA1Piecesx1
namespace Go.Proofs.Ytnmelglnkefjfaa.sha
open Go.RowKit Go.Proofs.HHW Go.Proofs.YtnmelglnkefjfaaW.PrintWords
set_option linter.unusedVariables false
set_option linter.unusedSimpArgs false
namespace tp
theorem ag4 : aggB Try.prog 4 = some false := by kernel_rfl
theorem ag9 : aggB Try.prog 9 = some false := by kernel_rfl
theorem sz4 : szB Try.prog 4 = some 1 := by kernel_rfl
theorem sz52 : szB Try.prog 52 = some 1 := by kernel_rfl
theorem sz9 : szB Try.prog 9 = some 1 := by kernel_rfl
theorem zv4 : zvB Try.prog 4 = some (.bool false) := by kernel_rfl
theorem zv52 : zvB Try.prog 52 = some (.slice none 0 0) := by kernel_rfl
theorem zv9 : zvB Try.prog 9 = some (.string ⟨#[]⟩) := by kernel_rfl
theorem in52 : (Try.prog.info? 52).map (fun i => (i.zero, i.size, i.bytes)) = some (some (.slice none 0 0), 1, 24) := by kernel_rfl
theorem idle19 (p0 : Addr) (p1 : Addr) (w : World) :
    CallsD Try.prog 19 #[.pointer (some p0), .pointer (some p1)] .returning w fun e u' w' => e = .returned (.tuple #[]) ∧ u' = .returning ∧ w' = w := by
  refine callsD_of_wpS Try.func19 rfl fun c₀ cs hu => ?_
  apply wpS_seq
  apply wpS_region
  simp [wpOpsS, go_sem, recoverD, hu, Try.ntmps19, Exit.thenS]
  refine wpS_cond (t := false) (by simp [Act.eval, Array.replicate]) ?_
  simp only [Bool.false_eq_true, if_false]
  refine wpS_of_wp (wp_skip ?_)
  cases c₀
  simp_all [bodyPostS, results, Try.results19]
def PcOk (Lp : List (Nat × Obj)) (xs : List Value) (l : List ByteArray) (j : Nat) : Prop := ∀ i s, i < j → l[i]? = some s → ∃ gp cp csp ep fp, xs[i]? = some (.slice (some ⟨gp, 0, none⟩) (ints s).length cp) ∧ (gp, Obj.cells csp ep fp) ∈ Lp ∧ (ints s).length ≤ cp ∧ ∀ (k : Nat) (v : Int), (ints s)[k]? = some v → csp[k]? = some (Value.int .u8 v)
theorem PcOk.next {Lp : List (Nat × Obj)} {xs : List Value} {l : List ByteArray} {j : Nat} {s : ByteArray} {gp cp : Nat} {csp : Array Value} {ep : TypeId} {fp : Nat × Nat} (h : PcOk Lp xs l j) (hx : xs.length = j) (hs : l[j]? = some s) (hcp : s.size ≤ cp) (hr : ∀ (k : Nat) (v : Int), (ints s)[k]? = some v → csp[k]? = some (Value.int .u8 v)) :
    PcOk ((gp, Obj.cells csp ep fp) :: Lp) (xs ++ [.slice (some ⟨gp, 0, none⟩) (ints s).length cp]) l (j + 1) := by
  intro i s' hi hs'
  by_cases e : i < j
  · obtain ⟨gp, cp, csp, ep, fp, h1, h2, h3, h4⟩ := h i s' e hs'
    exact ⟨gp, cp, csp, ep, fp, by rw [List.getElem?_append_left (by omega)]; exact h1, List.mem_cons_of_mem _ h2, h3, h4⟩
  · obtain rfl : i = j := by omega
    rw [hs] at hs'
    injection hs' with hs'
    subst hs'
    exact ⟨gp, cp, csp, ep, fp, by rw [List.getElem?_append_right (by omega), hx]; simp, List.mem_cons_self, by rw [ints_len]; exact hcp, hr⟩
theorem to_pieces {e : TypeId} {A : Option Addr} {c : Nat} {xs : List Value} {ow Lp base : List (Nat × Obj)} {l : List ByteArray} (ho : Own e 1 (.slice A l.length c) l.length xs ow) (hp : PcOk Lp xs l l.length) : pc.Pieces (ow ++ (Lp ++ base)) A (l.map ints) := by
  intro j p hj
  rw [List.getElem?_map] at hj
  obtain ⟨s, hs, rfl⟩ := Option.map_eq_some_iff.1 hj
  have hlt := (List.getElem?_eq_some_iff.1 hs).1
  obtain ⟨gp, cp, csp, ep, fp, h1, h2, h3, h4⟩ := hp j s hlt hs
  rcases ho.2 with ⟨_, h0, _⟩ | ⟨g, cs, c', f, hv, _, _, rfl, _, hr⟩
  · omega
  · injection hv with e1 e2 e3
    subst e1
    have hxl := ho.1
    refine ⟨g, cs, e, f, gp, cp, csp, ep, fp, rfl, by simp, ?_, by simp [h2], h3, h4⟩
    rw [hr j (by omega), h1]
def cat (l : List ByteArray) : ByteArray := l.foldl (· ++ ·) ⟨#[]⟩
theorem cat_succ {l : List ByteArray} {j : Nat} (h : j < l.length) : cat (l.take (j + 1)) = cat (l.take j) ++ l.getD j ByteArray.empty := by
  have hg := get_some ByteArray.empty h
  unfold cat
  rw [List.take_add_one, hg]
  simp
theorem ints_app (a b : ByteArray) : ints (a ++ b) = ints a ++ ints b := by
  unfold ints
  rw [ByteArray.data_append, Array.toList_append, List.map_append]
theorem cat_ints (l : List ByteArray) : pc.joined (l.map ints) = ints (cat l) := by
  suffices h : ∀ (l : List ByteArray) (acc : ByteArray), ints (l.foldl (· ++ ·) acc) = ints acc ++ pc.joined (l.map ints) by
    have := h l ⟨#[]⟩
    unfold cat
    rw [this]
    rfl
  intro l
  induction l with
  | nil => intro acc; simp [pc.joined]
  | cons x l ih =>
    intro acc
    simp only [List.foldl_cons, ih, ints_app, List.map_cons, pc.joined, List.flatten_cons, List.append_assoc]
theorem joined_one (s : ByteArray) : pc.joined ([s].map ints) = ints s := by simp [pc.joined]
theorem w64 {n : Int} (h : -9223372036854775808 ≤ n ∧ n ≤ 9223372036854775807) : wrap64 n = n := by unfold wrap64; omega
theorem fits_l (l : List ByteArray) (n : Nat) (hn : l.length = n) (hb : n ≤ 2147483647) : ∀ d i k : Nat, i ≤ n → n - i = d → d < k → ∃ b, PFnSHA1Pieces.laws_zzFits12.l0 k l n i = some b := by
  intro d
  induction d with
  | zero =>
    intro i k hi hd hk
    obtain ⟨k, rfl⟩ : ∃ m, k = m + 1 := ⟨k - 1, by omega⟩
    refine ⟨true, ?_⟩
    unfold PFnSHA1Pieces.laws_zzFits12.l0
    rw [if_neg (by omega)]
  | succ d ih =>
    intro i k hi hd hk
    obtain ⟨k, rfl⟩ : ∃ m, k = m + 1 := ⟨k - 1, by omega⟩
    unfold PFnSHA1Pieces.laws_zzFits12.l0
    rw [if_pos (by omega), if_pos (by omega), if_pos (by omega)]
    split
    · exact ⟨_, rfl⟩
    · rw [w64 (by omega)]
      exact ih (i + 1) k (by omega) (by omega) (by omega)
theorem fits12 (l : List ByteArray) : ∃ k b, PFnSHA1Pieces.laws_zzFits12.f k l = some b := by
  unfold PFnSHA1Pieces.laws_zzFits12.f
  by_cases h : (l.length : Int) > 2147483647
  · exact ⟨0, false, by rw [if_pos h]⟩
  · obtain ⟨b, hb⟩ := fits_l l l.length rfl (by omega) _ 0 (l.length - 0 + 1) (by omega) rfl (by omega)
    exact ⟨_, b, by rw [if_neg h]; exact hb⟩
set_option maxHeartbeats 1000000 in
theorem impl_sha (A : Option Addr) (c : Nat) (l : List ByteArray) (w0 : World) (hr : Kd.string.C w0 A l.length l) (hs : (pc.joined (l.map ints)).length ≤ 900000) (hn : l.length ≤ 900000) : Calls Try.prog 8 #[.slice A l.length c] w0 fun e w' => e = .returned (.tuple #[.string (strOfNums (sum (pc.joined (l.map ints)))), .bool true]) ∧ Below w0.heap.size w0 w' := by
  have hr0 := Aside0.mk hr; clear hr
  have H := HH.start w0
  refine c_enter_d (args := [.slice A l.length c]) (k := 22) Try.func8 rfl rfl rfl (fun a S => ?_)
  refine wp_seq ?_
  refine c_region ?_
  refine l_alloc (cs := _) S H rfl (fun w => al zv9) rfl rfl rfl ?_; clear S a H; intro g1 w a H S
  refine l_alloc (cs := _) S H rfl (fun w => al zv4) rfl rfl rfl ?_; clear S a H; intro g2 w a H S
  refine l_nil ?_
  refine e_then ?_
  refine wp_seq ?_
  refine c_region ?_
  refine l_pure S (p_func rfl rfl) rfl rfl rfl ?_; clear S a; intro a S
  refine l_defer (xs := []) (us := []) (vs := []) S rfl rfl rfl rfl rfl ?_; clear S a; intro a S
  refine l_nil ?_
  refine e_then ?_
  refine wp_seq ?_
  refine c_region ?_
  refine l_pure S (p_assign rfl) rfl rfl rfl ?_; clear S a; intro a S
  refine l_nil ?_
  refine e_then ?_
  refine wp_seq ?_
  refine wp_seq ?_
  refine c_region ?_
  refine l_pure S (p_move rfl) rfl rfl rfl ?_; clear S a; intro a S
  refine l_pure S (p_len Try.underlying25 rfl) rfl rfl rfl ?_; clear S a; intro a S
  refine l_pure S (p_move rfl) rfl rfl rfl ?_; clear S a; intro a S
  refine l_nil ?_
  refine e_then ?_
  refine wp_block ?_
  refine c_loop (σ := Nat × Option Addr × Nat × List (Nat × Obj) × List (Nat × Obj) × List Value) (fun s_ a w => match s_ with | ⟨j, Ao, co, ow, Lp, xs⟩ => SL a 23 [{ target := .fn (.func 19) [.pointer (some ⟨g1, 0, none⟩), .pointer (some ⟨g2, 0, none⟩)].toArray, args := #[] }] [(2, .pointer (some ⟨g1, 0, none⟩)), (3, .pointer (some ⟨g2, 0, none⟩)), (4, .slice Ao j co), (8, .slice A l.length c), (9, .int .i64 (l.length : Int)), (10, .int .i64 (j : Int))] ∧ HH (w0.heap.size) w0 w (ow ++ (Lp ++ [(g2, .cells #[.bool false] 4 (0, 0)), (g1, .cells #[.string ⟨#[]⟩] 9 (0, 0))])) ∧ (j ≤ l.length ∧ Own 52 1 (.slice Ao j co) j xs ow ∧ PcOk Lp xs l j)) (fun s_ => match s_ with | ⟨j, Ao, co, ow, Lp, xs⟩ => l.length - j) ⟨0, none, 0, [], [], []⟩ ⟨S.only ⟨rfl, rfl, rfl, rfl, rfl, rfl, trivial⟩, H, ⟨Nat.zero_le _, own_nil' 52 1, fun i s h => by omega⟩⟩ ?_
  clear S a H; rintro ⟨j, Ao, co, ow, Lp, xs⟩ a w ⟨S, H, hinv⟩
  obtain ⟨hj, ho, hp⟩ := hinv
  refine wp_seq ?_
  refine c_region ?_
  refine l_pure S (p_lss rfl rfl) rfl rfl rfl ?_; clear S a; intro a S
  refine l_nil ?_
  refine e_then ?_
  refine wp_seq ?_
  refine c_cond S rfl (fun c4 => ?_) (fun c4 => ?_)
  · skip
    have c4 := of_decide_eq_true c4
    refine wp_skip ?_
    refine e_then ?_
    refine wp_seq ?_
    refine wp_block ?_
    refine wp_seq ?_
    refine c_region ?_
    have hgs := get_some ByteArray.empty (show j < l.length by omega)
    obtain ⟨ad, hA⟩ := C_some hr0.out (show j < l.length by omega)
    subst hA
    refine l_pure S (p_indexAddr rfl rfl (fun w => ia_any Try.underlying25 sz9 (by omega) (by omega))) rfl rfl rfl ?_; clear S a; intro a S
    refine l_read S H (r_row (i := j) hr0.out rfl (by omega) hgs ag9 rfl) rfl rfl rfl ?_; clear S a; intro a S
    refine l_pure S (p_assign rfl) rfl rfl rfl ?_; clear S a; intro a S
    refine l_nil ?_
    refine e_then ?_
    refine c_region ?_
    refine l_pure S (p_move rfl) rfl rfl rfl ?_; clear S a; intro a S
    refine l_pure S (p_move rfl) rfl rfl rfl ?_; clear S a; intro a S
    refine l_bytes (s := l.getD j ByteArray.empty) S H rfl rfl Try.underlying9 Try.underlying52 Try.underlying5 rfl rfl rfl ?_; clear S a H; intro gp cp csp fp w a H hcp hrow S
    refine l_lit [.tmp 16] S H rfl rfl Try.underlying51 sz52 zv52 rfl rfl (by simp [Value.cells]) rfl rfl rfl ?_; clear S a H; intro gl w a H S
    refine l_own (n := j) (m := 1) [_, _] S (ow := ow) (L := Lp ++ [(g2, .cells #[.bool false] 4 (0, 0)), (g1, .cells #[.string ⟨#[]⟩] 9 (0, 0))]) H rfl rfl rfl ho (src_lit (c := 1) (vs := [.slice (some ⟨gp, 0, none⟩) (ints (l.getD j ByteArray.empty)).length cp]) H List.mem_cons_self Try.underlying51 (by simp [Value.oneCell'])) Try.underlying51 in52 rfl (by omega) (by decide) rfl rfl rfl ?_; clear S a H; intro v' ow' w a ho' H S
    obtain ⟨A', c', rfl, _⟩ := ho'.slice
    replace H := HH.mid (ow := ow') (HH.tail H)
    refine l_pure S (p_assign rfl) rfl rfl rfl ?_; clear S a; intro a S
    refine l_nil ?_
    refine e_in 1 ?_
    refine e_then ?_
    refine c_region ?_
    refine l_pure S (p_add rfl rfl (nat_add (x := j) (y := 1) (by omega))) rfl rfl rfl ?_; clear S a; intro a S
    refine l_pure S (p_move rfl) rfl rfl rfl ?_; clear S a; intro a S
    refine l_nil ?_
    refine e_then ?_
    exact ⟨⟨j + 1, A', c', ow', (gp, .cells csp 5 fp) :: Lp, xs ++ [.slice (some ⟨gp, 0, none⟩) (ints (l.getD j ByteArray.empty)).length cp]⟩, ⟨S.only ⟨rfl, rfl, rfl, rfl, rfl, rfl, trivial⟩, H, ⟨by omega, ho', hp.next (by have := ho.1; omega) hgs hcp hrow⟩⟩, by show l.length - (j + 1) < l.length - j; omega⟩
  · skip
    have c4 := of_decide_eq_false c4
    refine wp_exit ?_
    refine e_then_exit ?_
    refine e_then_exit ?_
    refine e_in_exit ?_
    refine e_then ?_
    refine wp_seq ?_
    refine c_region ?_
    refine l_pure S (p_move rfl) rfl rfl rfl ?_; clear S a; intro a S
    obtain rfl : j = l.length := by omega
    have hcon := pc.zz_calls _ _ w (ow ++ (Lp ++ [(g2, .cells #[.bool false] 4 (0, 0)), (g1, .cells #[.string ⟨#[]⟩] 9 (0, 0))])) Ao co (l.map ints) (to_pieces ho hp) (fun p hp y hy => by obtain ⟨s, _, rfl⟩ := List.mem_map.1 hp; exact ints_range s y hy) hs (by rw [List.length_map]; omega) H
    rw [List.length_map] at hcon
    refine l_call S rfl rfl Try.func20 rfl rfl (hcon) rfl rfl rfl ?_
    rintro e w ⟨go, co', rfl, hrb, hco, hH⟩
    refine ⟨_, rfl, ?_⟩; clear S a; intro a S
    clear H; have H := hH; clear hH hcon
    refine l_str (l := sum (pc.joined (l.map ints))) S rfl rfl Try.underlying52 Try.underlying5 Try.underlying9 (hrb.C (show 20 ≤ 9223372036854775807 by decide)) rfl rfl rfl ?_; clear S a; intro a S
    refine l_store S H rfl rfl rfl (Upd.skip ow (Upd.skip Lp (.there .here))) (by decide) (fun w u hc hz => st1 sz9 rfl hc hz) rfl rfl ?_; clear S a H; intro w a H S
    refine l_store S H rfl rfl rfl (Upd.skip ow (Upd.skip Lp .here)) (by decide) (fun w u hc hz => st1 sz4 rfl hc hz) rfl rfl ?_; clear S a H; intro w a H S
    refine l_nil ?_
    refine e_then ?_
    refine wp_ret ?_
    exact r_door (v := .tuple #[.string (strOfNums (sum (pc.joined (l.map ints)))), .bool true]) S (idle19 _ _) (invokes Try.func19 rfl rfl) (res_c2 rfl rfl rfl (lv ag9 H (List.mem_append_right _ (List.mem_append_right _ (List.mem_cons_of_mem _ List.mem_cons_self))) rfl) (lv ag4 H (List.mem_append_right _ (List.mem_append_right _ List.mem_cons_self)) rfl)) ⟨rfl, H.below⟩
set_option maxHeartbeats 1000000 in
theorem law_calls (A : Option Addr) (c : Nat) (l : List ByteArray) (w0 : World) (hr : Kd.string.C w0 A l.length l) (hc : l.length ≤ c) (hel : ∀ j, j < l.length → (l.getD j ByteArray.empty).size ≤ 140737488355328) (k : Nat) (b : Bool) (hf : PFnSHA1Pieces.laws_zzFits12.f k l = some b) (hll : l.length ≤ 140737488355328) : Calls Try.prog 4 #[.slice A l.length c] w0 fun e w' => e = .returned (.bool true) ∧ Below w0.heap.size w0 w' := by
  have hr0 := Aside0.mk hr; clear hr
  have H := HH.start w0
  refine c_enter (args := [.slice A l.length c]) (k := 64) Try.func4 rfl rfl rfl (fun a S => ?_)
  refine wp_seq ?_
  refine c_region ?_
  refine l_pure S (p_assign rfl) rfl rfl rfl ?_; clear S a; intro a S
  refine l_nil ?_
  refine e_then ?_
  refine wp_seq ?_
  refine wp_seq ?_
  refine c_region ?_
  refine l_pure S (p_move rfl) rfl rfl rfl ?_; clear S a; intro a S
  refine l_call S rfl rfl Try.func7 rfl rfl (PFnSHA1Pieces.laws_zzFits12.calls k A c l b w0 hr0.out hc hf) rfl rfl rfl ?_
  rintro e w ⟨rfl, hd⟩
  refine ⟨_, rfl, ?_⟩; clear S a; intro a S
  replace H := H.later hd.below; clear hd
  refine l_pure S (p_not rfl) rfl rfl rfl ?_; clear S a; intro a S
  refine l_nil ?_
  refine e_then ?_
  refine c_cond S rfl (fun c4 => ?_) (fun c4 => ?_)
  · skip
    replace c4 := not_eq_true_ c4
    
    refine wp_seq ?_
    refine c_region ?_
    refine l_pure S (p_assign rfl) rfl rfl rfl ?_; clear S a; intro a S
    refine l_nil ?_
    refine e_then ?_
    refine wp_ret ?_
    refine e_then_ret ?_
    first | exact r_ret1 S rfl rfl ⟨rfl, H.below⟩ | exact r_ret1 S rfl rfl ⟨by rw [beq_self_eq_true], H.below⟩ | exact r_ret1 S rfl rfl ⟨by simp, H.below⟩
  · skip
    replace c4 := not_eq_false_ c4
    
    refine wp_skip ?_
    refine e_then ?_
    refine wp_seq ?_
    refine c_region ?_
    refine l_pure S (p_assign rfl) rfl rfl rfl ?_; clear S a; intro a S
    refine l_nil ?_
    refine e_then ?_
    refine wp_seq ?_
    refine wp_seq ?_
    refine c_region ?_
    refine l_pure S (p_move rfl) rfl rfl rfl ?_; clear S a; intro a S
    refine l_pure S (p_len Try.underlying25 rfl) rfl rfl rfl ?_; clear S a; intro a S
    refine l_pure S (p_move rfl) rfl rfl rfl ?_; clear S a; intro a S
    refine l_nil ?_
    refine e_then ?_
    refine wp_block ?_
    refine c_loop (σ := Nat) (fun s_ a w => match s_ with | j => SL a 65 [] [(0, .slice A l.length c), (3, .string (cat (l.take j))), (13, .slice A l.length c), (14, .int .i64 (l.length : Int)), (15, .int .i64 (j : Int))] ∧ HH (w0.heap.size) w0 w [] ∧ (j ≤ l.length ∧ j ≤ 30 ∧ (cat (l.take j)).size ≤ 2000)) (fun s_ => match s_ with | j => l.length - j) 0 ⟨S.only ⟨rfl, rfl, rfl, rfl, rfl, trivial⟩, H, ⟨Nat.zero_le _, by decide, show (cat ([] : List ByteArray)).size ≤ 2000 by decide⟩⟩ ?_
    clear S a H; rintro j a w ⟨S, H, hinv⟩
    obtain ⟨hj, hj30, hT⟩ := hinv
    refine wp_seq ?_
    refine c_region ?_
    refine l_pure S (p_lss rfl rfl) rfl rfl rfl ?_; clear S a; intro a S
    refine l_nil ?_
    refine e_then ?_
    refine wp_seq ?_
    refine c_cond S rfl (fun c7 => ?_) (fun c7 => ?_)
    · skip
      have c7 := of_decide_eq_true c7
      refine wp_skip ?_
      refine e_then ?_
      refine wp_seq ?_
      refine wp_block ?_
      refine wp_seq ?_
      refine c_region ?_
      refine l_pure S (p_move rfl) rfl rfl rfl ?_; clear S a; intro a S
      have hgs := get_some ByteArray.empty (show j < l.length by omega)
      obtain ⟨ad, hA⟩ := C_some hr0.out (show j < l.length by omega)
      subst hA
      refine l_pure S (p_indexAddr rfl rfl (fun w => ia_any Try.underlying25 sz9 (by omega) (by omega))) rfl rfl rfl ?_; clear S a; intro a S
      refine l_read S H (r_row (i := j) hr0.out rfl (by omega) hgs ag9 rfl) rfl rfl rfl ?_; clear S a; intro a S
      refine l_pure S (p_assign rfl) rfl rfl rfl ?_; clear S a; intro a S
      refine l_pure S (p_assign rfl) rfl rfl rfl ?_; clear S a; intro a S
      refine l_nil ?_
      refine e_then ?_
      refine wp_seq ?_
      refine wp_seq ?_
      refine c_region ?_
      refine l_pure S (p_move rfl) rfl rfl rfl ?_; clear S a; intro a S
      refine l_pure S (p_geq rfl rfl) rfl rfl rfl ?_; clear S a; intro a S
      refine l_pure S (p_move rfl) rfl rfl rfl ?_; clear S a; intro a S
      refine l_split (S.of 22 rfl) (fun bc9 => ?_) (fun bc9 => ?_)
      · skip
        have c9 := bc9
        have c9 := of_decide_eq_true c9
        refine l_off S rfl rfl rfl rfl bc9 rfl rfl ?_; clear S a; intro a S
        refine l_off S rfl rfl rfl rfl bc9 rfl rfl ?_; clear S a; intro a S
        refine l_off S rfl rfl rfl rfl bc9 rfl rfl ?_; clear S a; intro a S
        refine l_off S rfl rfl rfl rfl bc9 rfl rfl ?_; clear S a; intro a S
        refine l_off S rfl rfl rfl rfl bc9 rfl rfl ?_; clear S a; intro a S
        refine l_off S rfl rfl rfl rfl bc9 rfl rfl ?_; clear S a; intro a S
        refine l_pure S (p_pick_t rfl bc9 rfl) rfl rfl rfl ?_; clear S a; intro a S
        refine l_nil ?_
        refine e_then ?_
        refine c_cond (b := true) S rfl (fun _ => ?_) (fun h => by cases h)
        refine wp_seq ?_
        refine c_region ?_
        refine l_pure S (p_assign rfl) rfl rfl rfl ?_; clear S a; intro a S
        refine l_nil ?_
        refine e_then ?_
        refine wp_ret ?_
        refine e_then_ret ?_
        refine e_in_ret ?_
        refine e_then_ret ?_
        refine e_then_ret ?_
        refine e_in_ret ?_
        refine e_then_ret ?_
        first | exact r_ret1 S rfl rfl ⟨rfl, H.below⟩ | exact r_ret1 S rfl rfl ⟨by rw [beq_self_eq_true], H.below⟩ | exact r_ret1 S rfl rfl ⟨by simp, H.below⟩
      · skip
        have c9 := bc9
        have c9 := of_decide_eq_false c9
        refine l_on S rfl rfl rfl rfl bc9 ?_
        refine l_pure S (p_move rfl) rfl rfl rfl ?_; clear S a; intro a S
        refine l_on S rfl rfl rfl rfl bc9 ?_
        refine l_pure S (p_lens Try.underlying9 rfl) rfl rfl rfl ?_; clear S a; intro a S
        refine l_on S rfl rfl rfl rfl bc9 ?_
        refine l_pure S (p_move rfl) rfl rfl rfl ?_; clear S a; intro a S
        refine l_on S rfl rfl rfl rfl bc9 ?_
        refine l_pure S (p_lens Try.underlying9 rfl) rfl rfl rfl ?_; clear S a; intro a S
        refine l_on S rfl rfl rfl rfl bc9 ?_
        have hsz := hel j (by omega)
        refine l_pure S (p_add rfl rfl (nat_add (x := ((cat (l.take j)).size)) (y := ((l.getD j ByteArray.empty).size)) (by omega))) rfl rfl rfl ?_; clear S a; intro a S
        refine l_on S rfl rfl rfl rfl bc9 ?_
        refine l_pure S (p_gtr rfl rfl) rfl rfl rfl ?_; clear S a; intro a S
        refine l_pure S (p_pick_f rfl bc9 rfl) rfl rfl rfl ?_; clear S a; intro a S
        refine l_nil ?_
        refine e_then ?_
        refine c_cond S rfl (fun c14 => ?_) (fun c14 => ?_)
        · skip
          have c14 := of_decide_eq_true c14
          refine wp_seq ?_
          refine c_region ?_
          refine l_pure S (p_assign rfl) rfl rfl rfl ?_; clear S a; intro a S
          refine l_nil ?_
          refine e_then ?_
          refine wp_ret ?_
          refine e_then_ret ?_
          refine e_in_ret ?_
          refine e_then_ret ?_
          refine e_then_ret ?_
          refine e_in_ret ?_
          refine e_then_ret ?_
          first | exact r_ret1 S rfl rfl ⟨rfl, H.below⟩ | exact r_ret1 S rfl rfl ⟨by rw [beq_self_eq_true], H.below⟩ | exact r_ret1 S rfl rfl ⟨by simp, H.below⟩
        · skip
          have c14 := of_decide_eq_false c14
          refine wp_skip ?_
          refine e_then ?_
          refine c_region ?_
          refine l_pure S (p_move rfl) rfl rfl rfl ?_; clear S a; intro a S
          refine l_pure S (p_move rfl) rfl rfl rfl ?_; clear S a; intro a S
          refine l_pure S (p_sadd rfl rfl (by rw [ByteArray.size_append]; omega)) rfl rfl rfl ?_; clear S a; intro a S
          rw [← cat_succ (show j < l.length by omega)] at S
          refine l_pure S (p_assign rfl) rfl rfl rfl ?_; clear S a; intro a S
          refine l_nil ?_
          refine e_in 1 ?_
          refine e_then ?_
          refine c_region ?_
          refine l_pure S (p_add rfl rfl (nat_add (x := j) (y := 1) (by omega))) rfl rfl rfl ?_; clear S a; intro a S
          refine l_pure S (p_move rfl) rfl rfl rfl ?_; clear S a; intro a S
          refine l_nil ?_
          refine e_then ?_
          exact ⟨(j + 1), ⟨S.only ⟨rfl, rfl, rfl, rfl, rfl, trivial⟩, H, ⟨by omega, by omega, by rw [cat_succ (by omega), ByteArray.size_append]; omega⟩⟩, by show l.length - (j + 1) < l.length - j; omega⟩
    · skip
      have c7 := of_decide_eq_false c7
      refine wp_exit ?_
      refine e_then_exit ?_
      refine e_then_exit ?_
      refine e_in_exit ?_
      refine e_then ?_
      refine wp_seq ?_
      refine c_region ?_
      refine l_pure S (p_move rfl) rfl rfl rfl ?_; clear S a; intro a S
      obtain rfl : j = l.length := by omega
      rw [List.take_of_length_le (Nat.le_refl _)] at S hT
      have hcon := impl_sha A c l w (C_old hr0.out H) (by rw [cat_ints, ints_len]; omega) (by omega)
      rw [cat_ints] at hcon
      refine l_call S rfl rfl Try.func8 rfl rfl (hcon) rfl rfl rfl ?_
      rintro e w ⟨rfl, hb⟩
      refine ⟨_, rfl, ?_⟩; clear S a; intro a S
      replace H := H.later hb; clear hb hcon
      refine l_pure S (p_move rfl) rfl rfl rfl ?_; clear S a; intro a S
      refine l_pure S (p_extract rfl rfl) rfl rfl rfl ?_; clear S a; intro a S
      refine l_pure S (p_extract rfl rfl) rfl rfl rfl ?_; clear S a; intro a S
      refine l_pure S (p_assign rfl) rfl rfl rfl ?_; clear S a; intro a S
      refine l_pure S (p_assign rfl) rfl rfl rfl ?_; clear S a; intro a S
      refine l_nil ?_
      refine e_then ?_
      refine wp_seq ?_
      refine c_region ?_
      refine l_pure S (p_move rfl) rfl rfl rfl ?_; clear S a; intro a S
      refine l_lit [(.tmp 40)] S H rfl rfl Try.underlying25 sz9 zv9 rfl rfl (by simp [Value.cells]) rfl rfl rfl ?_; clear S a H; intro g17 w a H S
      have hcon := impl_sha (some ⟨g17, 0, none⟩) 1 [cat l] w (C_own (g := g17) (o := 0) (xs := [cat l]) H List.mem_cons_self (show 1 ≤ 9223372036854775807 by decide) (fun j x hx => by rcases j with _ | j <;> simp at hx <;> subst hx <;> rfl)) (by rw [joined_one, ints_len]; omega) (by simp)
      rw [joined_one] at hcon
      refine l_call S rfl rfl Try.func8 rfl rfl (hcon) rfl rfl rfl ?_
      rintro e w ⟨rfl, hb⟩
      refine ⟨_, rfl, ?_⟩; clear S a; intro a S
      replace H := H.later hb; clear hb hcon
      refine l_pure S (p_move rfl) rfl rfl rfl ?_; clear S a; intro a S
      refine l_pure S (p_extract rfl rfl) rfl rfl rfl ?_; clear S a; intro a S
      refine l_pure S (p_extract rfl rfl) rfl rfl rfl ?_; clear S a; intro a S
      refine l_pure S (p_assign rfl) rfl rfl rfl ?_; clear S a; intro a S
      refine l_pure S (p_assign rfl) rfl rfl rfl ?_; clear S a; intro a S
      refine l_nil ?_
      refine e_then ?_
      refine wp_seq ?_
      refine c_region ?_
      refine l_pure S (p_move rfl) rfl rfl rfl ?_; clear S a; intro a S
      refine l_pure S (p_move rfl) rfl rfl rfl ?_; clear S a; intro a S
      refine l_on S rfl rfl rfl rfl rfl ?_
      refine l_pure S (p_move rfl) rfl rfl rfl ?_; clear S a; intro a S
      refine l_pure S (p_pick_t rfl rfl rfl) rfl rfl rfl ?_; clear S a; intro a S
      refine l_pure S (p_move rfl) rfl rfl rfl ?_; clear S a; intro a S
      refine l_on S rfl rfl rfl rfl rfl ?_
      refine l_pure S (p_move rfl) rfl rfl rfl ?_; clear S a; intro a S
      refine l_on S rfl rfl rfl rfl rfl ?_
      refine l_pure S (p_lens Try.underlying9 rfl) rfl rfl rfl ?_; clear S a; intro a S
      refine l_on S rfl rfl rfl rfl rfl ?_
      refine l_pure S (p_eql rfl rfl) rfl rfl rfl ?_; clear S a; intro a S
      refine l_pure S (p_pick_t rfl rfl rfl) rfl rfl rfl ?_; clear S a; intro a S
      refine l_pure S (p_move rfl) rfl rfl rfl ?_; clear S a; intro a S
      refine l_on S rfl rfl rfl rfl (by rw [strOfNums_size]; rfl) ?_
      refine l_pure S (p_move rfl) rfl rfl rfl ?_; clear S a; intro a S
      refine l_on S rfl rfl rfl rfl (by rw [strOfNums_size]; rfl) ?_
      refine l_pure S (p_move rfl) rfl rfl rfl ?_; clear S a; intro a S
      refine l_on S rfl rfl rfl rfl (by rw [strOfNums_size]; rfl) ?_
      refine l_pure S (p_seql rfl rfl) rfl rfl rfl ?_; clear S a; intro a S
      refine l_pure S (p_pick_t rfl (by rw [strOfNums_size]; rfl) rfl) rfl rfl rfl ?_; clear S a; intro a S
      refine l_pure S (p_move rfl) rfl rfl rfl ?_; clear S a; intro a S
      refine l_on S rfl rfl rfl rfl (beq_self_eq_true _) ?_
      refine l_pure S (p_move rfl) rfl rfl rfl ?_; clear S a; intro a S
      refine l_on S rfl rfl rfl rfl (beq_self_eq_true _) ?_
      refine l_pure S (p_move rfl) rfl rfl rfl ?_; clear S a; intro a S
      refine l_on S rfl rfl rfl rfl (beq_self_eq_true _) ?_
      refine l_call S rfl rfl Try.func9 rfl rfl (spec_sha (cat l) w (by omega)) rfl rfl rfl ?_
      rintro e w ⟨rfl, hb⟩
      refine ⟨_, rfl, ?_⟩; clear S a; intro a S
      replace H := H.later hb; clear hb
      refine l_on S rfl rfl rfl rfl (beq_self_eq_true _) ?_
      refine l_pure S (p_seql rfl rfl) rfl rfl rfl ?_; clear S a; intro a S
      refine l_pure S (p_pick_t rfl (beq_self_eq_true _) rfl) rfl rfl rfl ?_; clear S a; intro a S
      refine l_pure S (p_assign rfl) rfl rfl rfl ?_; clear S a; intro a S
      refine l_nil ?_
      refine e_then ?_
      refine wp_ret ?_
      first | exact r_ret1 S rfl rfl ⟨rfl, H.below⟩ | exact r_ret1 S rfl rfl ⟨by rw [beq_self_eq_true], H.below⟩ | exact r_ret1 S rfl rfl ⟨by simp, H.below⟩
end tp
end Go.Proofs.Ytnmelglnkefjfaa.sha
