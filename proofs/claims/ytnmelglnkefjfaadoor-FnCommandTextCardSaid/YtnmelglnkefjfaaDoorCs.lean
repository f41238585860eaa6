/- FnCommandText: String, CommandText. -/
import Derived.Test.YtnmelglnkefjfaaDoorCp
namespace Go.Proofs.YtnmelglnkefjfaaDoor.ct
open Go.RowKit Go.Proofs.HHW Go.Proofs.YtnmelglnkefjfaaDoorW.PrintWords Go.Proofs.YtnmelglnkefjfaaDoor.cm
set_option linter.unusedVariables false
set_option linter.unusedSimpArgs false
namespace sg
theorem ag36 : aggB Tryd.prog 36 = some false := by kernel_rfl
theorem ag4 : aggB Tryd.prog 4 = some false := by kernel_rfl
theorem ag9 : aggB Tryd.prog 9 = some false := by kernel_rfl
theorem fa141_1 (w : World) (g o : Nat) : (Instr.fieldAt 141 (.pointer (some ⟨g, o, none⟩)) 1).run Tryd.prog w = .ok (.pointer (some ⟨g, o + 1, none⟩)) w := by kernel_rfl
theorem fa141_2 (w : World) (g o : Nat) : (Instr.fieldAt 141 (.pointer (some ⟨g, o, none⟩)) 2).run Tryd.prog w = .ok (.pointer (some ⟨g, o + 2, none⟩)) w := by kernel_rfl
theorem sz4 : szB Tryd.prog 4 = some 1 := by kernel_rfl
theorem sz9 : szB Tryd.prog 9 = some 1 := by kernel_rfl
theorem zv4 : zvB Tryd.prog 4 = some (.bool false) := by kernel_rfl
theorem zv9 : zvB Tryd.prog 9 = some (.string ⟨#[]⟩) := by kernel_rfl
theorem in9 : (Tryd.prog.info? 9).map (fun i => (i.zero, i.size, i.bytes)) = some (some (.string ⟨#[]⟩), 1, 16) := by kernel_rfl
theorem bld113_  : Tryd.prog.built 113 [] = some #[.nilFunc] := by kernel_rfl

theorem own_row0 {te : TypeId} {g c : Nat} {cs : Array Value} (hc : cs.size = c) : Own te 1 (.slice (some ⟨g, 0, none⟩) 0 c) 0 [] [(g, .cells cs te (0, 0))] := ⟨rfl, .inr ⟨g, cs, c, (0, 0), rfl, Nat.zero_le _, by rw [hc, Nat.mul_one], rfl, thaw0 _, fun j hj => by simp at hj⟩⟩
theorem own_open {te : TypeId} {v : Value} {U : ByteArray} {l : List ByteArray} {ow : List (Nat × Obj)} (h : Own te 1 v (0 + 1 + l.length) ([] ++ [Value.string U] ++ l.map Value.string) ow) : ∃ gs cs cc ff, v = .slice (some ⟨gs, 0, none⟩) (0 + 1 + l.length) cc ∧ 0 + 1 + l.length ≤ cc ∧ cs.size = cc ∧ Thaw cs ff ∧ (∀ (j : Nat) (x : ByteArray), (U :: l)[j]? = some x → cs[j]? = some (.string x)) ∧ ow = [(gs, .cells cs te ff)] := by
  rcases h.2 with ⟨_, h0, _⟩ | ⟨gs, cs, cc, ff, rfl, hcc, hcs, rfl, hth, hr⟩
  · omega
  · refine ⟨gs, cs, cc, ff, rfl, hcc, by omega, hth, fun j x hx => ?_, rfl⟩
    have hj := (List.getElem?_eq_some_iff.1 hx).1
    have e : [] ++ [Value.string U] ++ l.map Value.string = (U :: l).map Value.string := by simp
    rw [e] at hr
    rw [hr j (by simpa using hj), List.getElem?_map, hx]
    rfl
theorem zs_le {U : ByteArray} {l : List ByteArray} {i : Nat} (hU : U.size ≤ 1000) (hls : ∀ s ∈ l, s.size ≤ 1000) (hi : i < (U :: l).length) : ((U :: l).getD i ByteArray.empty).size ≤ 1000 := by
  have hm := pr.mem_getD hi
  rcases List.mem_cons.1 hm with h | h
  · rw [h]; exact hU
  · exact hls _ h
def ctext (U : ByteArray) (l : List ByteArray) : List Int := [91] ++ jn U l ++ [93]
theorem ctext_eq (U : ByteArray) (l : List ByteArray) : (⟨#[91]⟩ : ByteArray) ++ strOfNums (jn U l) ++ ⟨#[93]⟩ = strOfNums (ctext U l) := by
  rw [show (⟨#[91]⟩ : ByteArray) = strOfNums [91] from rfl, show (⟨#[93]⟩ : ByteArray) = strOfNums [93] from rfl, sapp, sapp]
  rfl
theorem own_strC {e : TypeId} {A : Option Addr} {n c : Nat} {l : List ByteArray} {ow L : List (Nat × Obj)} {B : Nat} {w0 w : World} (h : Own e 1 (.slice A n c) n (l.map Value.string) ow) (H : HH B w0 w (ow ++ L)) (hl : l.length ≤ 9223372036854775807) : Kd.string.C w A l.length l := by
  have hn : l.length = n := by have := h.1; simpa using this
  rcases h.2 with ⟨hv, h0, _⟩ | ⟨g, cs, c', f, hv, _, _, rfl, _, hr⟩
  · injection hv with h1 h2 h3
    subst h1
    exact ⟨rfl, hl, fun hp => by omega⟩
  · injection hv with h1 h2 h3
    subst h1
    exact C_own (h1 := fun _ => rfl) H (List.mem_append_left _ List.mem_cons_self) hl (fun j x hx => by
      have hi' := (List.getElem?_eq_some_iff.1 hx).1
      rw [Nat.zero_add, hr j (by simpa using hi'), List.getElem?_map, hx]
      rfl)
set_option maxHeartbeats 1000000 in
theorem str_ (wb w0 : World) (B : Nat) (L0 : List (Nat × Obj)) (g : Nat) (nm : ByteArray) (hnm : nm.size ≤ 1000) (hU : (⟨(Lib.toUpperD nm.data.toList).toArray⟩ : ByteArray).size ≤ 1000) (A A' : Option Addr) (c n' c' : Nat) (b1 b2 b3 : Bool) (l : List ByteArray) (hC : ∀ w, Below B wb w → Kd.string.C w A l.length l) (hlc : l.length ≤ c) (hl : l.length ≤ 1000) (hls : ∀ s ∈ l, s.size ≤ 1000) (hT : ∀ w, Below B wb w → li.Tabs w) (H : HH B wb w0 ((g, .cells #[.nilIface, .string nm, .slice A l.length c, .slice A' n' c', .bool b1, .bool b2, .bool b3, .nilIface] 141 (0, 0)) :: L0)) : Calls Tryd.prog 50 #[.pointer (some ⟨g, 0, none⟩)] w0 fun e w' => e = .returned (.string (strOfNums (ctext (⟨(Lib.toUpperD nm.data.toList).toArray⟩ : ByteArray) l))) ∧ HH B wb w' ((g, .cells #[.nilIface, .string nm, .slice A l.length c, .slice A' n' c', .bool b1, .bool b2, .bool b3, .nilIface] 141 (0, 0)) :: L0) := by
  refine c_enter (args := [.pointer (some ⟨g, 0, none⟩)]) (k := 43) Tryd.func50 rfl rfl rfl (fun a S => ?_)
  refine wp_seq ?_
  refine c_region ?_
  refine l_pure S (p_assign rfl) rfl rfl rfl ?_; clear S a; intro a S
  refine l_nil ?_
  refine e_then ?_
  refine wp_seq ?_
  refine c_region ?_
  refine l_pure S (p_move rfl) rfl rfl rfl ?_; clear S a; intro a S
  refine l_pure S (p_nilCheck rfl) rfl rfl rfl ?_; clear S a; intro a S
  refine l_pure S (p_fieldAddr rfl (fun w => fa141_2 w _ _)) rfl rfl rfl ?_; clear S a; intro a S
  refine l_read S H (r_load rfl List.mem_cons_self rfl (fun w hc => ld1 ag36 hc)) rfl rfl rfl ?_; clear S a; intro a S
  refine l_pure S (p_len Tryd.underlying36 rfl) rfl rfl rfl ?_; clear S a; intro a S
  refine l_pure S (p_add rfl rfl (nat_add (x := l.length) (y := 1) (by omega))) rfl rfl rfl ?_; clear S a; intro a S
  refine l_make (l := 0) (c := l.length + 1) S H rfl rfl rfl Tryd.underlying36 in9 (by omega) (by omega) (by omega) rfl rfl rfl ?_; clear S a H; intro gm cm w a hcm H S
  have hw0 : Own 9 1 (.slice (some ⟨gm, 0, none⟩) 0 (l.length + 1)) 0 [] [(gm, .cells cm 9 (0, 0))] := own_row0 hcm
  refine l_pure S (p_assign rfl) rfl rfl rfl ?_; clear S a; intro a S
  refine l_nil ?_
  refine e_then ?_
  refine wp_seq ?_
  refine c_region ?_
  refine l_pure S (p_move rfl) rfl rfl rfl ?_; clear S a; intro a S
  refine l_pure S (p_move rfl) rfl rfl rfl ?_; clear S a; intro a S
  refine l_pure S (p_nilCheck rfl) rfl rfl rfl ?_; clear S a; intro a S
  refine l_pure S (p_fieldAddr rfl (fun w => fa141_1 w _ _)) rfl rfl rfl ?_; clear S a; intro a S
  refine l_read S H (r_load rfl (List.mem_cons_of_mem _ List.mem_cons_self) rfl (fun w hc => ld1 ag9 hc)) rfl rfl rfl ?_; clear S a; intro a S
  have hcon := li.upper_ nm _ (by omega) (hT _ H.below)
  refine l_call S rfl rfl Tryd.func58 rfl rfl (hcon) rfl rfl rfl ?_
  rintro e w ⟨rfl, hb⟩
  refine ⟨_, rfl, ?_⟩; clear S a; intro a S
  replace H := H.later hb; clear hb hcon
  revert S
  generalize (⟨(Lib.toUpperD nm.data.toList).toArray⟩ : ByteArray) = U at hU ⊢
  intro S
  refine l_lit [(.tmp 17)] (vs := [.string U]) S H rfl rfl Tryd.underlying36 sz9 zv9 rfl rfl (by simp [Value.cells]) rfl rfl rfl ?_; clear S a H; intro gl w a H S
  refine l_own (n := 0) (m := 1) [_] (xs := []) (ow := [(gm, .cells cm 9 (0, 0))]) S H rfl rfl rfl hw0 (src_lit (c := 1) (vs := [.string U]) H List.mem_cons_self Tryd.underlying36 (by simp [Value.oneCell'])) Tryd.underlying36 in9 rfl (by omega) (by decide) rfl rfl rfl ?_; clear S a H hw0; intro v1 ow1 w a hw1 H S
  replace H : HH B wb _ (ow1 ++ ((g, _) :: L0)) := HH.tail H
  refine l_pure S (p_assign rfl) rfl rfl rfl ?_; clear S a; intro a S
  refine l_nil ?_
  refine e_then ?_
  refine wp_seq ?_
  refine c_region ?_
  refine l_pure S (p_move rfl) rfl rfl rfl ?_; clear S a; intro a S
  refine l_pure S (p_move rfl) rfl rfl rfl ?_; clear S a; intro a S
  refine l_pure S (p_nilCheck rfl) rfl rfl rfl ?_; clear S a; intro a S
  refine l_pure S (p_fieldAddr rfl (fun w => fa141_2 w _ _)) rfl rfl rfl ?_; clear S a; intro a S
  refine l_read S H (r_load rfl (List.mem_append_right _ List.mem_cons_self) rfl (fun w hc => ld1 ag36 hc)) rfl rfl rfl ?_; clear S a; intro a S
  refine l_own (n := 0 + 1) (m := l.length) [] (xs := [] ++ [.string U]) (ow := ow1) S H rfl rfl rfl hw1 (src_C (h1 := fun _ => rfl) Tryd.underlying36 (hC _ H.below)) Tryd.underlying36 in9 rfl (by omega) (by decide) rfl rfl rfl ?_; clear S a H; intro v2 ow2 w a hw2 H S
  obtain ⟨gs, cs, cc, ff, rfl, hcc, hcs, hth, hrow, rfl⟩ := own_open hw2
  replace H : HH B wb _ ((gs, .cells cs 9 ff) :: (g, _) :: L0) := H
  refine l_pure S (p_assign rfl) rfl rfl rfl ?_; clear S a; intro a S
  refine l_nil ?_
  refine e_then ?_
  refine wp_seq ?_
  refine wp_seq ?_
  refine c_region ?_
  refine l_pure S (p_move rfl) rfl rfl rfl ?_; clear S a; intro a S
  refine l_pure S (p_len Tryd.underlying36 rfl) rfl rfl rfl ?_; clear S a; intro a S
  refine l_pure S (p_move rfl) rfl rfl rfl ?_; clear S a; intro a S
  refine l_nil ?_
  refine e_then ?_
  refine wp_block ?_
  refine c_loop (σ := Nat × Array Value) (fun s_ a w => match s_ with | ⟨i, cs⟩ => SL a 44 [] [(3, .slice (some ⟨gs, 0, none⟩) (0 + 1 + l.length) cc), (26, .slice (some ⟨gs, 0, none⟩) (0 + 1 + l.length) cc), (27, .int .i64 ((0 + 1 + l.length) : Nat)), (28, .int .i64 (i : Int))] ∧ HH (B) wb w ((gs, .cells cs 9 ff) :: (g, .cells #[.nilIface, .string nm, .slice A l.length c, .slice A' n' c', .bool b1, .bool b2, .bool b3, .nilIface] 141 (0, 0)) :: L0) ∧ (i ≤ (0 + 1 + l.length) ∧ cs.size = cc ∧ Thaw cs ff ∧ ∀ (j : Nat) (x : ByteArray), (zl (U :: l) i)[j]? = some x → cs[j]? = some (.string x))) (fun s_ => match s_ with | ⟨i, cs⟩ => (0 + 1 + l.length) - i) ⟨0, cs⟩ ⟨S.only ⟨rfl, rfl, rfl, rfl, trivial⟩, H, ⟨Nat.zero_le _, hcs, hth, by rw [zl_zero]; exact hrow⟩⟩ ?_
  clear S a H; rintro ⟨i, cs⟩ a w ⟨S, H, hinv⟩
  obtain ⟨hi, hcs, hth, hrow⟩ := hinv
  have hzl : (U :: l).length = (0 + 1 + l.length) := by simp; omega
  refine wp_seq ?_
  refine c_region ?_
  refine l_pure S (p_lss rfl rfl) rfl rfl rfl ?_; clear S a; intro a S
  refine l_nil ?_
  refine e_then ?_
  refine wp_seq ?_
  refine c_cond S rfl (fun bc2 => ?_) (fun bc2 => ?_)
  · skip
    have c2 := bc2
    have c2 := of_decide_eq_true c2
    refine wp_skip ?_
    refine e_then ?_
    refine wp_seq ?_
    refine wp_block ?_
    refine wp_seq ?_
    refine c_region ?_
    refine l_pure S (p_move rfl) rfl rfl rfl ?_; clear S a; intro a S
    refine l_pure S (p_assign rfl) rfl rfl rfl ?_; clear S a; intro a S
    refine l_nil ?_
    refine e_then ?_
    refine c_region ?_
    refine l_pure S (p_move rfl) rfl rfl rfl ?_; clear S a; intro a S
    refine l_pure S (p_move rfl) rfl rfl rfl ?_; clear S a; intro a S
    refine l_pure S (p_move rfl) rfl rfl rfl ?_; clear S a; intro a S
    refine l_pure S (p_move rfl) rfl rfl rfl ?_; clear S a; intro a S
    refine l_pure S (p_indexAddr rfl rfl (fun w => ia_slice Tryd.underlying36 sz9 (by omega) (by omega))) rfl rfl rfl ?_; clear S a; intro a S
    rw [show 0 + ((i : Nat) : Int).toNat * 1 = i by omega] at S
    refine l_read S H (r_load rfl List.mem_cons_self (hrow i _ (zl_get (show i < (U :: l).length by omega))) (fun w hc => ld1 ag9 hc)) rfl rfl rfl ?_; clear S a; intro a S
    have hcon := qu.quote_ wb _ B _ ((U :: l).getD i ByteArray.empty) (zs_le hU hls (show i < (U :: l).length by omega)) hT H
    refine l_call S rfl rfl Tryd.func59 rfl rfl (hcon) rfl rfl rfl ?_
    rintro e w ⟨rfl, hH⟩
    refine ⟨_, rfl, ?_⟩; clear S a; intro a S
    clear H hcon; have H := hH; clear hH
    refine l_pure S (p_indexAddr rfl rfl (fun w => ia_slice Tryd.underlying36 sz9 (by omega) (by omega))) rfl rfl rfl ?_; clear S a; intro a S
    rw [show 0 + ((i : Nat) : Int).toNat * 1 = i by omega] at S
    refine l_storeT S H rfl rfl rfl hth .here (by omega) (fun w u hc hz => st1 sz9 rfl hc hz) rfl rfl ?_; clear S a H; intro w a H S
    refine l_nil ?_
    refine e_in 1 ?_
    refine e_then ?_
    refine c_region ?_
    refine l_pure S (p_add rfl rfl (nat_add (x := i) (y := 1) (by omega))) rfl rfl rfl ?_; clear S a; intro a S
    refine l_pure S (p_move rfl) rfl rfl rfl ?_; clear S a; intro a S
    refine l_nil ?_
    refine e_then ?_
    exact ⟨⟨i + 1, cs.setIfInBounds i (.string (qs ((U :: l).getD i ByteArray.empty)))⟩, ⟨S.only ⟨rfl, rfl, rfl, rfl, trivial⟩, H, ⟨by omega, by rw [Array.size_setIfInBounds]; exact hcs, Thaw.set hth, zl_step (by omega) (by omega) hrow⟩⟩, (show (0 + 1 + l.length) - (i + 1) < (0 + 1 + l.length) - i by omega)⟩
  · skip
    have c2 := bc2
    have c2 := of_decide_eq_false c2
    refine wp_exit ?_
    refine e_then_exit ?_
    refine e_then_exit ?_
    refine e_in_exit ?_
    refine e_then ?_
    refine wp_seq ?_
    refine c_region ?_
    refine l_pure S (p_move rfl) rfl rfl rfl ?_; clear S a; intro a S
    rw [zl_all (by omega)] at hrow
    have hml : (((U :: l)).map qs).length = (0 + 1 + l.length) := by rw [List.length_map]; exact hzl
    have hjl := jn_len hU hls
    have hat := H.at_ _ List.mem_cons_self
    simp only at hat
    have hlt := H.lt List.mem_cons_self
    simp only at hlt
    have hcon := li.join_ gs 0 cc (((U :: l)).map qs) ⟨#[32]⟩ _ (fun j x hx => by rw [Nat.zero_add]; simp only [World.cell?, hat]; exact hrow j x hx) hlt (by omega) (by omega) (by have h5 := congrArg ByteArray.size (join_qs U l); rw [strOfNums_size] at h5; have h6 : ∀ q : List UInt8, (⟨q.toArray⟩ : ByteArray).size = q.length := fun q => (by simp [ByteArray.size]); rw [h6] at h5; omega)
    rw [join_qs, hml] at hcon
    refine l_call S rfl rfl Tryd.func60 rfl rfl (hcon) rfl rfl rfl ?_
    rintro e w ⟨rfl, hb⟩
    refine ⟨_, rfl, ?_⟩; clear S a; intro a S
    replace H := H.later hb; clear hb hcon
    refine l_pure S (p_sadd rfl rfl (by rw [ByteArray.size_append, strOfNums_size]; show 1 + _ ≤ _; omega)) rfl rfl rfl ?_; clear S a; intro a S
    refine l_pure S (p_sadd rfl rfl (by rw [ByteArray.size_append, ByteArray.size_append, strOfNums_size]; show 1 + _ + 1 ≤ _; omega)) rfl rfl rfl ?_; clear S a; intro a S
    refine l_pure S (p_assign rfl) rfl rfl rfl ?_; clear S a; intro a S
    refine l_nil ?_
    refine e_then ?_
    refine wp_ret ?_
    exact r_ret1 S rfl rfl ⟨by rw [ctext_eq], H.tail⟩
theorem door_ (w0 : World) (nm : ByteArray) (hnm : nm.size ≤ 1000) (hU : (⟨(Lib.toUpperD nm.data.toList).toArray⟩ : ByteArray).size ≤ 1000) (A : Option Addr) (c : Nat) (l : List ByteArray) (hC : Kd.string.C w0 A l.length l) (hlc : l.length ≤ c) (hl : l.length ≤ 1000) (hls : ∀ s ∈ l, s.size ≤ 1000) (hT : ∀ w, Below w0.heap.size w0 w → li.Tabs w) : Calls Tryd.prog 33 #[.string nm, .slice A l.length c] w0 fun e w' => e = .returned (.string (strOfNums (ctext (⟨(Lib.toUpperD nm.data.toList).toArray⟩ : ByteArray) l))) ∧ Below w0.heap.size w0 w' := by
  have H := HH.start w0
  refine c_enter (args := [.string nm, .slice A l.length c]) (k := 8) Tryd.func33 rfl rfl rfl (fun a S => ?_)
  refine wp_seq ?_
  refine c_region ?_
  refine l_pure S (p_assign rfl) rfl rfl rfl ?_; clear S a; intro a S
  refine l_nil ?_
  refine e_then ?_
  refine wp_seq ?_
  refine c_region ?_
  refine l_pure S (p_bld (ps := []) rfl (bld113_)) rfl rfl rfl ?_; clear S a; intro a S
  refine l_pure S (p_move rfl) rfl rfl rfl ?_; clear S a; intro a S
  refine l_pure S (p_move rfl) rfl rfl rfl ?_; clear S a; intro a S
  have hcon := pr.cmd_ _ nm hnm A c l (C_old hC H) hlc hl hls (fun w hb => hT w (H.later hb).below)
  refine l_call S rfl rfl Tryd.func49 rfl rfl (hcon) rfl rfl rfl ?_
  rintro e w ⟨g, A', n', c', b1, b2, b3, rfl, hH⟩
  refine ⟨_, rfl, ?_⟩; clear S a; intro a S
  replace H := H.join hH; clear hH hcon
  have hcon := str_ w0 _ w0.heap.size [] g nm hnm hU A A' c n' c' b1 b2 b3 l (fun w hb => C_later hC hb) hlc hl hls hT H
  refine l_call S rfl rfl Tryd.func50 rfl rfl (hcon) rfl rfl rfl ?_
  rintro e w ⟨rfl, hH⟩
  refine ⟨_, rfl, ?_⟩; clear S a; intro a S
  clear H hcon; have H := hH; clear hH
  refine l_pure S (p_assign rfl) rfl rfl rfl ?_; clear S a; intro a S
  refine l_nil ?_
  refine e_then ?_
  refine wp_ret ?_
  exact r_ret1 S rfl rfl ⟨rfl, H.below⟩
theorem idle32 (p0 : Addr) (p1 : Addr) (w : World) :
    CallsD Tryd.prog 32 #[.pointer (some p0), .pointer (some p1)] .returning w fun e u' w' => e = .returned (.tuple #[]) ∧ u' = .returning ∧ w' = w := by
  refine callsD_of_wpS Tryd.func32 rfl fun c₀ cs hu => ?_
  apply wpS_seq
  apply wpS_region
  simp [wpOpsS, go_sem, recoverD, hu, Tryd.ntmps32, Exit.thenS]
  refine wpS_cond (t := false) (by simp [Act.eval, Array.replicate]) ?_
  simp only [Bool.false_eq_true, if_false]
  refine wpS_of_wp (wp_skip ?_)
  cases c₀
  simp_all [bodyPostS, results, Tryd.results32]
theorem impl_ (w0 : World) (nm : ByteArray) (hnm : nm.size ≤ 1000) (hU : (⟨(Lib.toUpperD nm.data.toList).toArray⟩ : ByteArray).size ≤ 1000) (A : Option Addr) (c : Nat) (l : List ByteArray) (hC : Kd.string.C w0 A l.length l) (hlc : l.length ≤ c) (hl : l.length ≤ 1000) (hls : ∀ s ∈ l, s.size ≤ 1000) (hT : ∀ w, Below w0.heap.size w0 w → li.Tabs w) : Calls Tryd.prog 14 #[.string nm, .slice A l.length c] w0 fun e w' => e = .returned (.tuple #[.string (strOfNums (ctext (⟨(Lib.toUpperD nm.data.toList).toArray⟩ : ByteArray) l)), .bool true]) ∧ Below w0.heap.size w0 w' := by
  have H := HH.start w0
  refine c_enter_d (args := [.string nm, .slice A l.length c]) (k := 10) Tryd.func14 rfl rfl rfl (fun a S => ?_)
  refine wp_seq ?_
  refine c_region ?_
  refine l_alloc (cs := #[.string ⟨#[]⟩]) S H rfl (fun w => al zv9) rfl rfl rfl ?_; clear S a H; intro gs w a H S
  refine l_alloc (cs := #[.bool false]) S H rfl (fun w => al zv4) rfl rfl rfl ?_; clear S a H; intro gb w a H S
  refine l_nil ?_
  refine e_then ?_
  refine wp_seq ?_
  refine c_region ?_
  refine l_pure S (p_func rfl rfl) rfl rfl rfl ?_; clear S a; intro a S
  refine l_defer (xs := []) (us := []) (vs := []) S rfl rfl rfl rfl rfl ?_; clear S a; intro a S
  refine l_nil ?_
  refine e_then ?_
  refine wp_seq ?_
  refine c_region ?_
  refine l_pure S (p_move rfl) rfl rfl rfl ?_; clear S a; intro a S
  refine l_lit0 S H rfl Tryd.underlying36 sz9 rfl rfl rfl ?_; clear S a H; intro gl w a H S
  refine l_pure S (p_move rfl) rfl rfl rfl ?_; clear S a; intro a S
  refine l_own (n := 0) (m := l.length) [] (xs := []) (ow := [(gl, .cells #[] 9 (0, 0))]) S H rfl rfl rfl (own_row0 (by rfl)) (src_C (h1 := fun _ => rfl) Tryd.underlying36 (C_old hC H)) Tryd.underlying36 in9 rfl (by omega) (by decide) rfl rfl rfl ?_; clear S a H; intro v1 ow1 w a hw1 H S
  rw [Nat.zero_add, List.nil_append] at hw1
  obtain ⟨A1, c1, rfl, hlc1⟩ := hw1.slice
  replace H : HH w0.heap.size w0 _ (ow1 ++ [_, _]) := H
  have hC1 := own_strC hw1 H (by omega)
  have hcon := door_ _ nm hnm hU A1 c1 l hC1 hlc1 hl hls (fun w hb => hT w (H.later hb).below)
  refine l_call S rfl rfl Tryd.func33 rfl rfl (hcon) rfl rfl rfl ?_
  rintro e w ⟨rfl, hb⟩
  refine ⟨_, rfl, ?_⟩; clear S a; intro a S
  replace H := H.later hb; clear hb hcon
  refine l_store S H rfl rfl rfl (Upd.skip ow1 (.there .here)) (by first | decide | simp [Value.cells]) (fun w u hc hz => st1 sz9 rfl hc hz) rfl rfl ?_; clear S a H; intro w a H S
  refine l_store S H rfl rfl rfl (Upd.skip ow1 .here) (by first | decide | simp [Value.cells]) (fun w u hc hz => st1 sz4 rfl hc hz) rfl rfl ?_; clear S a H; intro w a H S
  refine l_nil ?_
  refine e_then ?_
  refine wp_ret ?_
  exact r_door (v := .tuple #[.string (strOfNums (ctext (⟨(Lib.toUpperD nm.data.toList).toArray⟩ : ByteArray) l)), .bool true]) S (idle32 _ _) (invokes Tryd.func32 rfl rfl) (res_c2 rfl rfl rfl (lv ag9 H (List.mem_append_right _ (List.mem_cons_of_mem _ List.mem_cons_self)) rfl) (lv ag4 H (List.mem_append_right _ List.mem_cons_self) rfl)) ⟨rfl, H.below⟩
end sg
end Go.Proofs.YtnmelglnkefjfaaDoor.ct
