/- Part of the proof that FnDecodeCRLF answers true at every text, in every world that its card's statement admits; no condition beyond those. -/
import Derived.Test.YtbahngfpadjbhaaGreatDoorR16
import Derived.Test.YtbahngfpadjbhaaGreatDoorR05
import Derived.Test.YtbahngfpadjbhaaGreatDoorR04
import Derived.Test.YtbahngfpadjbhaaGreatDoorR01
import Derived.Laws.StructEq
import Derived.Test.YtbahngfpadjbhaaGreatDoorR10
set_option linter.unusedVariables false
set_option linter.unusedSimpArgs false
section
namespace Go.Proofs.YtbahngfpadjbhaaGreatDoor.dec
open Go.Proofs.YtbahngfpadjbhaaGreatDoor.fx
open Go.RowKit Go.Proofs.HHW Go.Proofs.YtbahngfpadjbhaaGreatDoorW.PrintWords Go.Proofs.YtbahngfpadjbhaaGreatDoor.dt
namespace hq
theorem ag24 : aggB Tryz.prog 24 = some false := by kernel_rfl
theorem sz24 : szB Tryz.prog 24 = some 1 := by kernel_rfl
theorem zv24 : zvB Tryz.prog 24 = some (.slice none 0 0) := by kernel_rfl
theorem zv4 : zvB Tryz.prog 4 = some (.bool false) := by kernel_rfl
theorem drop_ne (X : List Int) (q : Nat) : decide (q + 1 ≤ X.length) = !(X.drop q).isEmpty := by
 by_cases h : q + 1 ≤ X.length
 ·
  rw [decide_eq_true h, drop_at (by omega)]; rfl
 rw [decide_eq_false h, List.drop_eq_nil_of_le (by omega)]; rfl
theorem nextS (wb w0 : World) (g : Nat) (X : List Int) (p V : Nat) (sec : Int) (line : Nat) (eb : Value) (K : Nat) (D E L : dc.Bk) (hst : ST TY 5 wb w0 g X p V sec false line eb K D E L) (hs : sec = 5 ∨ sec = 4) (hW : Wb 118 1 2 3 0 wb) (hB : Bd X line K) (hl4 : line ≤ 40000000) (hK5 : K ≤ 70000000) : Calls Tryz.prog 11 #[.pointer (some ⟨g, 0, none⟩)] w0 fun e w' => ∃ (X0 : List Int) (q0 : Nat) (eb' : Value) (D' E' L' : dc.Bk), e = .returned (.bool (!(nextP X p line sec).1.isEmpty)) ∧ ST TY 5 wb w' g X0 q0 (min (q0 + 1) X0.length) 0 false ((nextP X p line sec).2) eb' K D' E' L' ∧ Rl L L' ∧ X0.drop q0 = (nextP X p line sec).1 ∧ (∀ x ∈ X0, 0 ≤ x ∧ x < 256) ∧ X0.length ≤ 4000 := by
 rcases hs with rfl | rfl
 ·
  refine (dec.hm.next5 _ _ _ _ _ _ _ _ _ _ _ _ hst hW hB hl4 hK5).mono ?_
  rintro e w' ⟨eb', D', E', L', rfl, hst', hl⟩
  rw [show nextP X p line 5 = _ from if_pos rfl]
  exact ⟨X, _, eb', D', E', L', by rw [drop_ne], hst', hl, rfl, hB.by_, hB.len⟩
 refine (dec.hm.next4 _ _ _ _ _ _ _ _ _ _ _ _ hst hW hB hl4 hK5).mono ?_
 rintro e w' ⟨eb', D', E', L', rfl, hst', hl⟩
 rw [show nextP X p line 4 = _ from if_neg (by decide)]
 have hB' := hB.rest (p := p) hl4
 exact ⟨_, _, eb', D', E', L', by rw [drop_ne], hst'.leK K (Nat.zero_le _), hl, rfl, hB'.by_, hB'.len⟩
theorem litE (w : World) (x1 x4 : ByteArray) (A2 A3 : Option Addr) (n2 c2 n3 c3 : Nat) (b5 b6 : Bool) (k7 k8 k10 : Int) : (Instr.buildSlice 24 1 #[(0, .agg #[.string x1, .slice A2 n2 c2, .slice A3 n3 c3, .string x4, .bool b5, .bool b6, .int .i64 k7, .int .i64 k8, .bool false, .int .i64 k10])]).run Tryz.prog w = .ok (.slice (some ⟨w.heap.size, 0, none⟩) 1 1) (w.alloc (.cells #[.string x1, .slice A2 n2 c2, .slice A3 n3 c3, .string x4, .bool b5, .bool b6, .int .i64 k7, .int .i64 k8, .bool false, .int .i64 k10] 40 (0, 0))) := by kernel_rfl
theorem idle9 (p0 : Addr) (p1 : Addr) (w : World) :
  CallsD Tryz.prog 9 #[.pointer (some p0), .pointer (some p1)] .returning w fun e u' w' => e = .returned (.tuple #[]) ∧ u' = .returning ∧ w' = w := by
 refine callsD_of_wpS Tryz.func9 rfl fun c₀ cs hu => ?_
 apply wpS_seq
 apply wpS_region
 simp [wpOpsS, go_sem, recoverD, hu, Tryz.ntmps9, Exit.thenS]
 refine wpS_cond (t := false) (by simp [Act.eval, Array.replicate]) ?_
 simp only [Bool.false_eq_true, if_false]
 refine wpS_of_wp (wp_skip ?_)
 cases c₀
 simp_all [bodyPostS, results, Tryz.results9]
set_option maxHeartbeats 2000000 in
theorem decodeAll_ (wb w0 : World) (L0 : dc.Bk) (s : ByteArray) (Az : Option Addr) (zs : List Int) (cz : Nat) (hW : Wb 118 1 2 3 0 wb) (H : HH wb.heap.size wb w0 L0) (hC : (Kd.int .i64).C wb Az zs.length zs) (hzc : zs.length ≤ cz) (hz : zs.length ≤ 1000) (hs : s.size ≤ 4000) : Calls Tryz.prog 6 #[.string s, .slice Az zs.length cz] w0 fun e w' => ∃ (v : Value) (Lr : dc.Bk), e = .returned (.tuple #[v, .bool true]) ∧ ER Lr v (all (ints s)) ∧ HH wb.heap.size wb w' (Lr ++ L0) := by
 refine c_enter_d (args := [.string s, .slice Az zs.length cz]) (k := 17) Tryz.func6 rfl rfl rfl (fun a S => ?_)
 revert a;refine pS (pG ?_);intro a S
 refine l_alloc (cs := #[.slice none 0 0]) S H rfl (fun w => al zv24) rfl rfl rfl ?_; clear S a H; intro g1 w a H S
 refine l_alloc (cs := #[.bool false]) S H rfl (fun w => al zv4) rfl rfl rfl ?_; clear S a H; intro g2 w a H S
 revert a;refine pL (pT (pS (pG (pP (p_func rfl rfl) rfl ?_))));intro a S
 refine l_defer (xs := []) (us := []) (vs := []) S rfl rfl rfl rfl rfl ?_; clear S a; intro a S
 revert a;refine pL (pT (pS (pG (pM 2 rfl ?_))))
 have hcon := dec.mk.decoder_ wb _ _ s Az zs cz H hC hzc hz (by omega)
 refine pC Tryz.func10 hcon ?_
 rintro e w ⟨g, eb, me, D, v, cm, M, rfl, hD, hme, hH⟩
 refine ⟨_, rfl, ?_⟩
 clear H hcon; have H := hH; clear hH
 refine pM 1 rfl (pL (pT (pS (pB ?_))))
 have hso := ints_len s
 have hob := hme.slice
 obtain ⟨Ae, ce, rfl, _⟩ := hob
 have hst : ST TY 5 wb w g (ints s) 0 0 5 false 1 (.slice Ae ([] : List Int).length ce) 70000000 D me (([(g2, .cells #[.bool false] 4 (0, 0)), (g1, .cells #[.slice none 0 0] 24 (0, 0))] ++ L0)) := ⟨v, cm, M, hD, Nat.zero_le _, ⟨Ae, [], ce, rfl, hme, Nat.zero_le _⟩, H⟩
 intro a S
 refine c_loop (σ := List Ent × List Int × Nat × Nat × Int × Nat) (fun s_ a w => match s_ with | ⟨acc, X, p, line, sec, f⟩ => SL a 19 [{ target := .fn (.func 9) [.pointer (some ⟨g1, 0, none⟩), .pointer (some ⟨g2, 0, none⟩)].toArray, args := #[] }] [(4, .pointer (some ⟨g1, 0, none⟩)), (5, .pointer (some ⟨g2, 0, none⟩)), (6, .pointer (some ⟨g, 0, none⟩))] ∧ ∃ (vE eb' : Value) (D' E' owE Lp : dc.Bk) (xs : List Value), ST TY 5 wb w g X p 0 sec false line eb' 70000000 D' E' (([(g2, .cells #[.bool false] 4 (0, 0)), (g1, .cells #[vE] 24 (0, 0))] ++ (owE ++ (Lp ++ L0)))) ∧ Own 40 10 vE acc.length xs owE ∧ EntR Lp acc xs ∧ (sec = 5 ∨ sec = 4) ∧ msr X p sec < f ∧ acc.length + msr X p sec ≤ 9000 ∧ line + (X.length - p) ≤ 9000 ∧ (∀ x ∈ X, 0 ≤ x ∧ x < 256) ∧ X.length ≤ 4000 ∧ all (ints s) = acc ++ ents f X p line sec) (fun s_ => match s_ with | ⟨acc, X, p, line, sec, f⟩ => msr X p sec) ⟨[], ints s, 0, 1, 5, 2 * (ints s).length + 2⟩ ⟨S.only ⟨rfl, rfl, rfl, trivial⟩, .slice none 0 0, _, D, me, [], [], [], hst, own_nil' _ _, rfl, .inl rfl, by unfold msr; rw [if_pos rfl]; omega, by unfold msr; rw [if_pos rfl]; simp only [List.length_nil]; omega, by omega, fun x hx => by have := ints_range s x hx; omega, by omega, rfl⟩ ?_
 clear S a H hst hD hme; rintro ⟨acc, X, p, line, sec, f⟩ a w ⟨S, vE, eb', D', E', owE, Lp, xs, hst, hoE, hER, hsc, hf, hac, hln, hby, hXl, hall⟩
 obtain ⟨AE, cE, rfl, _⟩ := hoE.slice
 have hpX := hst.pX
 obtain ⟨f, rfl⟩ : ∃ k, f = k + 1 := ⟨f - 1, by omega⟩
 obtain ⟨hn1, _, hn3⟩ := next_far (line := line) hpX hsc
 have hB : Bd X line 70000000 := ⟨hby, hXl, by omega, by omega⟩
 revert a;refine pS (pS (pG (pM 1 rfl ?_)))
 have hcon := nextS _ _ _ _ _ _ _ _ _ _ _ _ _ hst hsc hW hB (by omega) (by omega)
 refine pC Tryz.func11 hcon ?_
 rintro e w ⟨X0, q0, eb1, D1, E1, L1, rfl, hst1, ⟨G, rfl⟩, hX0, hb0, hl0⟩
 refine ⟨_, rfl, ?_⟩
 clear hcon hst
 refine pL (pT (zc rfl (fun bc2 => ?_) (fun bc2 => ?_)))
 ·
  have c2 := bc2
  have hne : (nextP X p line sec).1 ≠ [] := fun h => by rw [h] at c2; cases c2
  have H := HH.dropG (BL := [_, _]) (HH.outB (BL := [_, _]) hst1.H)
  refine pK (pT (pB ?_));intro a S
  refine d_startW (id := 4) (Lr := [(g2, .cells #[.bool false] 4 (0, 0)), (g1, .cells #[.slice AE acc.length cE] 24 (0, 0))]) [4, 5] 6 (bA 6 0) H (fun _ H => H.sub (List.sublist_append_left [_, _] _)) rfl rfl rfl (fun w H => ?_)
  refine d_read (i := 0) (bA 6 1) S (H.sub (List.sublist_append_left [_, _] _)) rfl (r_load rfl m1 rfl (fun w hc => ld1 ag24 hc)) (wanted_none rfl) rfl rfl (by kernel_rfl) (hq_d (fun t => by simp [results, Tryz.results6, Array.getElem?_setIfInBounds])) ?_; clear S a; intro a S
  refine d_pure (i := 1) (bA 6 3) S rfl (p_move rfl) (wanted_none rfl) rfl rfl (by kernel_rfl) (hq_d (fun t => by simp [results, Tryz.results6, Array.getElem?_setIfInBounds])) ?_; clear S a; intro a S
  have hst2 := hst1.to (HH.inB (BL := [_, _]) H)
  have hq0 := hst1.pX
  have hB0 : Bd X0 (nextP X p line sec).2 70000000 := ⟨hb0, hl0, by omega, by omega⟩
  have hcon := dec.ho.entryS _ _ _ _ _ _ _ _ _ _ _ _ hst2 (by omega) hW hB0 (by omega) (by omega)
  rw [hX0] at hcon
  refine d_callN (i := 2) (bA 6 7) S rfl rfl rfl Tryz.func12 rfl rfl hcon (wanted_none rfl) rfl rfl (by kernel_rfl) rfl ?_
  rintro e w ⟨tv, fv, eb'', D'', E'', owT, owF, rfl, hoT, hoF, hst2⟩
  obtain ⟨At, ct, rfl, _⟩ := hoT.slice
  obtain ⟨Af, cf, rfl, _⟩ := hoF.slice
  clear hcon H
  have H := hst2.H.rowsUp
  refine ⟨_, rfl, H.sub (List.sublist_append_left [_, _] _), ?_⟩;clear S a
  intro a S
  refine d_litR (i := 3) (ps := [(0, .tmp 15)]) (bA 6 15) S (List.sublist_append_left [_, _] _) H rfl rfl rfl (fun w => litE w _ _ _ _ _ _ _ _ _ _ _ _ _) (wanted_none rfl) rfl rfl (by kernel_rfl) rfl ?_; clear S a H; intro gl w a H S
  refine d_ownN (i := 4) (m := acc.length) (k := 1) (xs := xs) (ow := owE) (news := entV (entP (nextP X p line sec).1 (nextP X p line sec).2).r _ _) [_, _, _] (bA 6 31) S H rfl rfl rfl rfl hoE (src_litS (c := 1) (n := 1) (s := 10) (vs := entV (entP (nextP X p line sec).1 (nextP X p line sec).2).r _ _) H m0 Tryz.underlying24 rfl (fun v hv => by simp only [entV, List.mem_cons, List.not_mem_nil, or_false] at hv; rcases hv with rfl | rfl | rfl | rfl | rfl | rfl | rfl | rfl | rfl | rfl <;> rfl)) Tryz.underlying24 in40 rfl (by omega) (by decide) (wanted_none rfl) rfl rfl (by kernel_rfl) rfl ?_; clear S a H; intro vE' ow' w a ho' H S
  replace H := HH.tail H
  obtain ⟨A', c', rfl, _⟩ := ho'.slice
  refine d_store (i := 5) (bA 6 63) S H rfl rfl rfl rfl (.there .here) Nat.zero_lt_one (fun w u hc hz => st1 sz24 rfl hc hz) (wanted_none rfl) rfl (by kernel_rfl) rfl ?_; clear S a H; intro w a H S
  replace H : HH wb.heap.size wb w ([(g2, .cells #[.bool false] 4 (0, 0)), (g1, .cells #[.slice A' (acc.length + 1) c'] 24 (0, 0))] ++ (ow' ++ (D'' ++ (E'' ++ ((owF ++ (owT ++ Lp)) ++ L0))))) := H
  obtain ⟨hst3, hER', hbY⟩ : ST TY 5 wb w g ((nextP X p line sec).1) ((entP (nextP X p line sec).1 (nextP X p line sec).2).p) 0 ((entP (nextP X p line sec).1 (nextP X p line sec).2).sec) false ((entP (nextP X p line sec).1 (nextP X p line sec).2).line) eb'' 70000000 D'' E'' (([(g2, .cells #[.bool false] 4 (0, 0)), (g1, .cells #[.slice A' (acc.length + 1) c'] 24 (0, 0))] ++ (ow' ++ ((owF ++ (owT ++ Lp)) ++ L0)))) ∧ EntR (owF ++ (owT ++ Lp)) (acc ++ [(entP (nextP X p line sec).1 (nextP X p line sec).2).r]) (xs ++ entV (entP (nextP X p line sec).1 (nextP X p line sec).2).r (.slice At _ ct) (.slice Af _ cf)) ∧ (∀ x ∈ (nextP X p line sec).1, 0 ≤ x ∧ x < 256) := ⟨hst2.to (HH.rowsDown (BL := [_, _]) (O := ow') (D := D'') (E := E'') (Lp := owF ++ (owT ++ Lp)) (L0 := L0) H), EntR.snoc (hoT.rw_ fun x hx => List.mem_append_right _ (List.mem_append_left _ hx)) (hoF.rw_ fun x hx => List.mem_append_left _ hx) (hER.mono fun x hx => List.mem_append_right _ (List.mem_append_right _ hx)), fun x hx => hb0 x (List.mem_of_mem_drop (by rw [hX0]; exact hx))⟩
  revert a;refine qD (pI 1 (pT ?_))
  obtain ⟨he1, he2, he3⟩ := ent_far (nextP X p line sec).1 (nextP X p line sec).2
  have hm := msr_lt (line := line) hpX hsc hne
  have hYl : (nextP X p line sec).1.length ≤ 4000 := by rw [← hX0, List.length_drop]; omega
  intro a S
  exact ⟨⟨acc ++ [(entP (nextP X p line sec).1 (nextP X p line sec).2).r], (nextP X p line sec).1, (entP (nextP X p line sec).1 (nextP X p line sec).2).p, (entP (nextP X p line sec).1 (nextP X p line sec).2).line, (entP (nextP X p line sec).1 (nextP X p line sec).2).sec, f⟩, ⟨S.only ⟨rfl, rfl, rfl, trivial⟩, _, eb'', D'', E'', ow', owF ++ (owT ++ Lp), _, hst3, by rw [List.length_append]; exact ho', hER', he3.imp (fun h => h.1) id, by omega, by rw [List.length_append, List.length_singleton]; omega, by omega, hbY, by omega, hall.trans (by rw [ents, if_neg hne, List.append_assoc]; rfl)⟩, hm⟩
 have c2 := bc2
 have hnil : (nextP X p line sec).1 = [] := by
  cases h : (nextP X p line sec).1 with
  | nil => rfl
  | cons x r => rw [h] at c2; cases c2
 have H := HH.dropG (BL := [_, _]) (HH.outB (BL := [_, _]) hst1.H)
 refine pX (pV (pV (pW (pT (pS (pG (pD H rfl rfl m1 rfl ag24 rfl (pE H rfl rfl rfl (.there .here) (by first | decide | simp [Value.cells]) sz24 ?_))))))));clear H;intro w H
 refine pE H rfl rfl rfl .here (by first | decide | simp [Value.cells]) sz4 ?_;clear H;intro w H
 refine pL (pT (pZ ?_))
 have hacc : all (ints s) = acc := hall.trans (by rw [ents, if_pos hnil, List.append_nil])
 intro a S
 refine r_door (v := .tuple #[.slice AE acc.length cE, .bool true]) S (idle9 _ _) (invokes Tryz.func9 rfl rfl) (res_c2 rfl rfl rfl (lv ag24 H m1 rfl) (lv ag4 H m0 rfl)) ⟨_, owE ++ Lp, rfl, ⟨xs, by rw [hacc]; exact hoE.rw_ fun x hx => List.mem_append_left _ hx, by rw [hacc]; exact hER.mono fun x hx => List.mem_append_right _ hx⟩, HH.rowsLeft H⟩
end hq
end Go.Proofs.YtbahngfpadjbhaaGreatDoor.dec
end
section
namespace Go.Proofs.YtbahngfpadjbhaaGreatDoorW.PrintWords
open Go.RowKit
section
variable {P : Program} {d : Nat} {xs ys : Array Value} {f : Field} {fs : List Field} {a b : Value} {r s : Bool} {w : World}
theorem eqf_last (hn : (f.name == "_") = false) (ha : (part f.type xs f.offset).run P w = .ok a w) (hb : (part f.type ys f.offset).run P w = .ok b w) (he : (Op.equalIn d f.type a b).run P w = .ok r w) : (Op.eqFields d xs ys [f]).run P w = .ok r w := by
 have hn' : f.name ≠ "_" := by simpa using hn
 simp only [Op.eqFields, if_pos hn', Sem.run_bind, ha, hb, he, Result.andThen_ok]
 cases r <;> simp
theorem eqf_cons (hn : (f.name == "_") = false) (ha : (part f.type xs f.offset).run P w = .ok a w) (hb : (part f.type ys f.offset).run P w = .ok b w) (he : (Op.equalIn d f.type a b).run P w = .ok r w) (hr : (Op.eqFields d xs ys fs).run P w = .ok s w) : (Op.eqFields d xs ys (f :: fs)).run P w = .ok (r && s) w := by
 have hn' : f.name ≠ "_" := by simpa using hn
 rw [Op.eqFields]
 simp only [if_pos hn', Sem.run_bind, ha, hb, he, Result.andThen_ok]
 cases r
 ·
  simp
 ·
  simpa using hr
theorem eqA_of {t : TypeId} {fs : Array Field} (hu : P.underlying t = some (.struct fs)) (hp : P.stoodInHeld t = false) (h : (Op.eqFields d xs ys fs.toList).run P w = .ok r w) : (Op.equalIn (d + 1) t (.agg xs) (.agg ys)).run P w = .ok r w := by
 have hf : P.fieldsOf t = fs := by simp [Program.fieldsOf, hu]
 rw [run_equalIn_struct (P := P) w d t xs ys (by rw [hf]; exact hu) hp, hf]
 exact h
end
end Go.Proofs.YtbahngfpadjbhaaGreatDoorW.PrintWords
end
section
namespace Go.Proofs.YtbahngfpadjbhaaGreatDoor.dec
open Go.Proofs.YtbahngfpadjbhaaGreatDoor.fx
open Go.RowKit Go.Proofs.HHW Go.Proofs.YtbahngfpadjbhaaGreatDoorW.PrintWords Go.Proofs.YtbahngfpadjbhaaGreatDoor.dt
namespace hs
theorem flat_at {α : Type} (f : α → List Value) (s : Nat) (hf : ∀ x, (f x).length = s) : ∀ {l : List α} {j : Nat} {x : α}, l[j]? = some x → ∀ i v, (f x)[i]? = some v → (l.flatMap f)[j * s + i]? = some v
 | [], j, x, h, _, _, _ => by simp at h
 | y :: l, 0, x, h, i, v, hi => by
  simp only [List.getElem?_cons_zero, Option.some.injEq] at h
  subst h
  rw [List.flatMap_cons, List.getElem?_append_left (by have := (List.getElem?_eq_some_iff.1 hi).1; omega), Nat.zero_mul, Nat.zero_add, hi]
 | y :: l, j + 1, x, h, i, v, hi => by
  have h' : l[j]? = some x := by simpa using h
  have ih := flat_at f s hf h' i v hi
  have e : (j + 1) * s + i - s = j * s + i := by rw [Nat.succ_mul]; omega
  rw [List.flatMap_cons, List.getElem?_append_right (by rw [hf, Nat.succ_mul]; omega), hf, e, ih]
theorem r_rw {P : Program} {F : List (Nat × Value)} {B : Nat} {w0 : World} {L : List (Nat × Obj)} {t : TypeId} {x : Operand} {g o : Nat} {cs : Array Value} {te : TypeId} {f : Nat × Nat} {vs : List Value} (hx : ev F x = some (.pointer (some ⟨g, o, none⟩))) (hm : (g, Obj.cells cs te f) ∈ L) (hv : ∀ i v, vs[i]? = some v → cs[o + i]? = some v) (ha : aggB P t = some true) (hs : szB P t = some vs.length) : Reads P F B w0 L (.load t x) (.agg vs.toArray) :=
 r_loads hx fun w H => ldn ha hs fun i v hi => by
  have hat := H.at_ _ hm
  simp only at hat
  simp [World.cell?, hat, hv i v hi]
theorem ba_refl (x : ByteArray) : (x == x) = true := by
 show (x.data == x.data) = true
 exact beq_self_eq_true _
theorem stE38 : Tryz.prog.stoodInHeld 38 = false := by kernel_rfl
theorem egE38 (w : World) (x y : Operand) (a b : Array Value) : (eqGuard .neq 38 x y (.agg a) (.agg b)).run Tryz.prog w = .ok () w := by kernel_rfl
theorem neE38 (w : World) (x0 : Bool) (x1 : Int) (x2 : Int) (x3 : Bool) : (binOp .neq 38 (.agg #[.bool x0, .int .i64 x1, .int .i64 x2, .bool x3]) (.agg #[.bool x0, .int .i64 x1, .int .i64 x2, .bool x3])).run Tryz.prog w = .ok (.bool false) w := by
 show ((Op.equal 38 (.agg #[.bool x0, .int .i64 x1, .int .i64 x2, .bool x3]) (.agg #[.bool x0, .int .i64 x1, .int .i64 x2, .bool x3])) >>= fun r => pure (Value.bool !r)).run Tryz.prog w = _
 have h : (Op.equalIn 10000 38 (.agg #[.bool x0, .int .i64 x1, .int .i64 x2, .bool x3]) (.agg #[.bool x0, .int .i64 x1, .int .i64 x2, .bool x3])).run Tryz.prog w = .ok (x0 == x0 && (x1 == x1 && (x2 == x2 && (x3 == x3)))) w := eqA_of Tryz.underlying38 stE38 (eqf_cons (a := .bool x0) (b := .bool x0) rfl (by kernel_rfl) (by kernel_rfl) (by kernel_rfl) (eqf_cons (a := .int .i64 x1) (b := .int .i64 x1) rfl (by kernel_rfl) (by kernel_rfl) (by kernel_rfl) (eqf_cons (a := .int .i64 x2) (b := .int .i64 x2) rfl (by kernel_rfl) (by kernel_rfl) (by kernel_rfl) (eqf_last (a := .bool x3) (b := .bool x3) rfl (by kernel_rfl) (by kernel_rfl) (by kernel_rfl)))))
 rw [Sem.run_bind, show (Op.equal 38 (.agg #[.bool x0, .int .i64 x1, .int .i64 x2, .bool x3]) (.agg #[.bool x0, .int .i64 x1, .int .i64 x2, .bool x3])).run Tryz.prog w = _ from h]
 simp [Result.andThen, ba_refl]
theorem stE66 : Tryz.prog.stoodInHeld 66 = false := by kernel_rfl
theorem egE66 (w : World) (x y : Operand) (a b : Array Value) : (eqGuard .neq 66 x y (.agg a) (.agg b)).run Tryz.prog w = .ok () w := by kernel_rfl
theorem neE66 (w : World) (x0 : ByteArray) (x1 : ByteArray) : (binOp .neq 66 (.agg #[.string x0, .string x1]) (.agg #[.string x0, .string x1])).run Tryz.prog w = .ok (.bool false) w := by
 show ((Op.equal 66 (.agg #[.string x0, .string x1]) (.agg #[.string x0, .string x1])) >>= fun r => pure (Value.bool !r)).run Tryz.prog w = _
 have h : (Op.equalIn 10000 66 (.agg #[.string x0, .string x1]) (.agg #[.string x0, .string x1])).run Tryz.prog w = .ok (x0 == x0 && (x1 == x1)) w := eqA_of Tryz.underlying66 stE66 (eqf_cons (a := .string x0) (b := .string x0) rfl (by kernel_rfl) (by kernel_rfl) (by kernel_rfl) (eqf_last (a := .string x1) (b := .string x1) rfl (by kernel_rfl) (by kernel_rfl) (by kernel_rfl)))
 rw [Sem.run_bind, show (Op.equal 66 (.agg #[.string x0, .string x1]) (.agg #[.string x0, .string x1])).run Tryz.prog w = _ from h]
 simp [Result.andThen, ba_refl]
theorem stE71 : Tryz.prog.stoodInHeld 71 = false := by kernel_rfl
theorem egE71 (w : World) (x y : Operand) (a b : Array Value) : (eqGuard .neq 71 x y (.agg a) (.agg b)).run Tryz.prog w = .ok () w := by kernel_rfl
theorem neE71 (w : World) (x0 : ByteArray) (x1 : Int) (x2 : ByteArray) : (binOp .neq 71 (.agg #[.string x0, .int .i64 x1, .string x2]) (.agg #[.string x0, .int .i64 x1, .string x2])).run Tryz.prog w = .ok (.bool false) w := by
 show ((Op.equal 71 (.agg #[.string x0, .int .i64 x1, .string x2]) (.agg #[.string x0, .int .i64 x1, .string x2])) >>= fun r => pure (Value.bool !r)).run Tryz.prog w = _
 have h : (Op.equalIn 10000 71 (.agg #[.string x0, .int .i64 x1, .string x2]) (.agg #[.string x0, .int .i64 x1, .string x2])).run Tryz.prog w = .ok (x0 == x0 && (x1 == x1 && (x2 == x2))) w := eqA_of Tryz.underlying71 stE71 (eqf_cons (a := .string x0) (b := .string x0) rfl (by kernel_rfl) (by kernel_rfl) (by kernel_rfl) (eqf_cons (a := .int .i64 x1) (b := .int .i64 x1) rfl (by kernel_rfl) (by kernel_rfl) (by kernel_rfl) (eqf_last (a := .string x2) (b := .string x2) rfl (by kernel_rfl) (by kernel_rfl) (by kernel_rfl))))
 rw [Sem.run_bind, show (Op.equal 71 (.agg #[.string x0, .int .i64 x1, .string x2]) (.agg #[.string x0, .int .i64 x1, .string x2])).run Tryz.prog w = _ from h]
 simp [Result.andThen, ba_refl]
set_option maxHeartbeats 2000000 in
theorem sameE_ (wb w0 : World) (L0 : dc.Bk) (x : Ent) (tv fv tv' fv' : Value) (hA1 : Rw L0 tv x.tags.length (tagV x.tags)) (hA2 : Rw L0 fv x.fields.length (fieldV x.fields)) (hB1 : Rw L0 tv' x.tags.length (tagV x.tags)) (hB2 : Rw L0 fv' x.fields.length (fieldV x.fields)) (hl1 : x.tags.length ≤ 5000) (hl2 : x.fields.length ≤ 5000) (H : HH wb.heap.size wb w0 L0) : Calls Tryz.prog 13 #[.agg (entV x tv fv).toArray, .agg (entV x tv' fv').toArray] w0 fun e w' => e = .returned (.bool true) ∧ HH wb.heap.size wb w' L0 := by
 obtain ⟨A1, c1, rfl, hc1, hA1⟩ := hA1
 obtain ⟨A2, c2, rfl, hc2, hA2⟩ := hA2
 obtain ⟨B1, d1, rfl, hd1, hB1⟩ := hB1
 obtain ⟨B2, d2, rfl, hd2, hB2⟩ := hB2
 refine c_enter (args := [.agg (entV x (.slice A1 x.tags.length c1) (.slice A2 x.fields.length c2)).toArray, .agg (entV x (.slice B1 x.tags.length d1) (.slice B2 x.fields.length d2)).toArray]) (k := 95) Tryz.func13 rfl rfl rfl ?_
 refine pS (pG ?_);intro a S
 refine l_box (cs := #[.string (strOfNums x.name), .slice A1 x.tags.length c1, .slice A2 x.fields.length c2, .string (strOfNums x.time), .bool x.hasT, .bool (fv4 x.f).1, .int .i64 (fv4 x.f).2.1, .int .i64 (fv4 x.f).2.2, .bool false, .int .i64 x.part]) S H rfl rfl (fun w => bx) rfl rfl rfl ?_; clear S a H; intro g1 w a H S
 refine l_box (cs := #[.string (strOfNums x.name), .slice B1 x.tags.length d1, .slice B2 x.fields.length d2, .string (strOfNums x.time), .bool x.hasT, .bool (fv4 x.f).1, .int .i64 (fv4 x.f).2.1, .int .i64 (fv4 x.f).2.2, .bool false, .int .i64 x.part]) S H rfl rfl (fun w => bx) rfl rfl rfl ?_; clear S a H; intro g2 w a H S
 revert a;refine pM 1 rfl (pL (pT (pS ?_)));intro a S
 refine c_cut (fun a w => SL a 97 [] [(2, .pointer (some ⟨g1, 0, none⟩)), (3, .pointer (some ⟨g2, 0, none⟩)), (64, .bool false)] ∧ HH (wb.heap.size) wb w ((g2, .cells #[.string (strOfNums x.name), .slice B1 x.tags.length d1, .slice B2 x.fields.length d2, .string (strOfNums x.time), .bool x.hasT, .bool (fv4 x.f).1, .int .i64 (fv4 x.f).2.1, .int .i64 (fv4 x.f).2.2, .bool false, .int .i64 x.part] 40 (0, 0)) :: (g1, .cells #[.string (strOfNums x.name), .slice A1 x.tags.length c1, .slice A2 x.fields.length c2, .string (strOfNums x.time), .bool x.hasT, .bool (fv4 x.f).1, .int .i64 (fv4 x.f).2.1, .int .i64 (fv4 x.f).2.2, .bool false, .int .i64 x.part] 40 (0, 0)) :: L0)) ?_ ?_
 ·
  clear S a H; rintro a w ⟨S, H⟩
  revert a;refine zf (pK (pT (pS (pS (pG (pA fa40_1 rfl rfl rfl (pD H rfl rfl m1 rfl ag35 rfl (pP (p_len Tryz.underlying35 rfl) rfl (pM 1 rfl (pL (pT (pB ?_))))))))))));intro a S
  refine c_loop (σ := Nat) (fun s_ a w => match s_ with | j => SL a 97 [] [(2, .pointer (some ⟨g1, 0, none⟩)), (3, .pointer (some ⟨g2, 0, none⟩)), (66, .slice A1 x.tags.length c1), (67, .int .i64 (x.tags.length : Int)), (68, .int .i64 (j : Int))] ∧ HH (wb.heap.size) wb w ((g2, .cells #[.string (strOfNums x.name), .slice B1 x.tags.length d1, .slice B2 x.fields.length d2, .string (strOfNums x.time), .bool x.hasT, .bool (fv4 x.f).1, .int .i64 (fv4 x.f).2.1, .int .i64 (fv4 x.f).2.2, .bool false, .int .i64 x.part] 40 (0, 0)) :: (g1, .cells #[.string (strOfNums x.name), .slice A1 x.tags.length c1, .slice A2 x.fields.length c2, .string (strOfNums x.time), .bool x.hasT, .bool (fv4 x.f).1, .int .i64 (fv4 x.f).2.1, .int .i64 (fv4 x.f).2.2, .bool false, .int .i64 x.part] 40 (0, 0)) :: L0) ∧ (j ≤ x.tags.length)) (fun s_ => match s_ with | j => x.tags.length - j) 0 ⟨S.only ⟨rfl, rfl, rfl, rfl, rfl, trivial⟩, H, Nat.zero_le _⟩ ?_
  clear S a H; rintro j a w ⟨S, H, hinv⟩
  have hj := hinv
  revert a;refine pS (pG (pP (p_lss rfl rfl) rfl (pL (pT (pS (zc rfl (fun bc6 => ?_) (fun bc6 => ?_)))))))
  ·
   have c6 := of_decide_eq_true bc6
   obtain ⟨p1, cs1, te1, f1, rfl, hm1, hr1⟩ := hA1.resolve_left (by omega)
   obtain ⟨q1, cs2, te2, f2, rfl, hm2, hr2⟩ := hB1.resolve_left (by omega)
   obtain ⟨kv, hkv⟩ : ∃ y, x.tags[j]? = some y := ⟨_, List.getElem?_eq_getElem (by omega)⟩
   have hat1 := fun i v h => hr1 (j * 2 + i) v (flat_at (fun y : List Int × List Int => ([.string (strOfNums y.1), .string (strOfNums y.2)] : List Value)) 2 (fun _ => rfl) hkv i v h)
   have hat2 := fun i v h => hr2 (j * 2 + i) v (flat_at (fun y : List Int × List Int => ([.string (strOfNums y.1), .string (strOfNums y.2)] : List Value)) 2 (fun _ => rfl) hkv i v h)
   refine pK (pT (pS (pB (pS (pG (pM 1 rfl (pP (p_indexAddr rfl rfl (fun w => ia_slice Tryz.underlying35 sz66 (by omega) (by omega))) rfl (pR H (r_rw (vs := [.string (strOfNums kv.1), .string (strOfNums kv.2)]) rfl (List.mem_cons_of_mem _ (List.mem_cons_of_mem _ hm1)) (fun i v h => (by rw [Nat.zero_add]; exact hat1 i v h)) ag66 sz66) rfl ?_))))))));intro a S
   refine l_alloc (cs := #[.string ⟨#[]⟩, .string ⟨#[]⟩]) S H rfl (fun w => al zv66) rfl rfl rfl ?_; clear S a H; intro g7 w a H S
   revert a;refine pM 1 rfl (pF [.string (strOfNums kv.1), .string (strOfNums kv.2)] H rfl rfl sz66 .here ?_);clear H;intro w H
   refine pL (pT (pS ?_));intro a S
   refine d_start (id := 6) [] 7 (bA 7 0) H rfl rfl rfl (fun w H => ?_)
   revert a;refine qM [3] rfl (qR 0 H rfl (r_loadn (m := 2) (vs := [.string (strOfNums kv.1), .string (strOfNums kv.2)]) rfl m0 ag66 sz66 rfl rfl) rfl (qA 1 fa40_1 rfl rfl rfl rfl (qE 2 H rfl rfl rfl m1 rfl ag35 rfl (qP 4 rfl (p_indexAddr rfl rfl (fun w => ia_slice Tryz.underlying35 sz66 (by omega) (by omega))) rfl (qR 5 H rfl (r_rw (vs := [.string (strOfNums kv.1), .string (strOfNums kv.2)]) rfl (List.mem_cons_of_mem _ (List.mem_cons_of_mem _ (List.mem_cons_of_mem _ hm2))) (fun i v h => (by rw [Nat.zero_add]; exact hat2 i v h)) ag66 sz66) rfl (qP 6 rfl (p_bin (v := .bool false) rfl rfl (fun w => egE66 w _ _ _ _) (fun w => neE66 w _ _)) rfl (qD (pT (zf (pK (pI 1 (pT (pG (pP (p_add rfl rfl (nat_add (x := j) (y := 1) (by omega))) rfl (pM 1 rfl (pL ?_))))))))))))))))
   replace H := H.tail
   refine pT ?_;intro a S
   exact ⟨(j + 1), ⟨S.only ⟨rfl, rfl, rfl, rfl, rfl, trivial⟩, H, (show j + 1 ≤ x.tags.length by omega)⟩, (show x.tags.length - (j + 1) < x.tags.length - j from by omega)⟩
  have c6 := of_decide_eq_false bc6
  refine pX (pV (pV (pW (pT (pS (pS (pG (pA fa40_2 rfl rfl rfl (pD H rfl rfl m1 rfl ag36 rfl (pP (p_len Tryz.underlying36 rfl) rfl (pM 1 rfl (pL (pT (pB ?_))))))))))))));intro a S
  refine c_loop (σ := Nat) (fun s_ a w => match s_ with | j => SL a 97 [] [(2, .pointer (some ⟨g1, 0, none⟩)), (3, .pointer (some ⟨g2, 0, none⟩)), (82, .slice A2 x.fields.length c2), (83, .int .i64 (x.fields.length : Int)), (84, .int .i64 (j : Int))] ∧ HH (wb.heap.size) wb w ((g2, .cells #[.string (strOfNums x.name), .slice B1 x.tags.length d1, .slice B2 x.fields.length d2, .string (strOfNums x.time), .bool x.hasT, .bool (fv4 x.f).1, .int .i64 (fv4 x.f).2.1, .int .i64 (fv4 x.f).2.2, .bool false, .int .i64 x.part] 40 (0, 0)) :: (g1, .cells #[.string (strOfNums x.name), .slice A1 x.tags.length c1, .slice A2 x.fields.length c2, .string (strOfNums x.time), .bool x.hasT, .bool (fv4 x.f).1, .int .i64 (fv4 x.f).2.1, .int .i64 (fv4 x.f).2.2, .bool false, .int .i64 x.part] 40 (0, 0)) :: L0) ∧ (j ≤ x.fields.length)) (fun s_ => match s_ with | j => x.fields.length - j) 0 ⟨S.only ⟨rfl, rfl, rfl, rfl, rfl, trivial⟩, H, Nat.zero_le _⟩ ?_
  clear S a H; rintro j a w ⟨S, H, hinv⟩
  have hj := hinv
  revert a;refine pS (pG (pP (p_lss rfl rfl) rfl (pL (pT (pS (zc rfl (fun bc11 => ?_) (fun bc11 => ?_)))))))
  ·
   have c11 := of_decide_eq_true bc11
   obtain ⟨p1, cs1, te1, f1, rfl, hm1, hr1⟩ := hA2.resolve_left (by omega)
   obtain ⟨q1, cs2, te2, f2, rfl, hm2, hr2⟩ := hB2.resolve_left (by omega)
   obtain ⟨kv, hkv⟩ : ∃ y, x.fields[j]? = some y := ⟨_, List.getElem?_eq_getElem (by omega)⟩
   have hat1 := fun i v h => hr1 (j * 3 + i) v (flat_at (fun y : List Int × Int × List Int => ([.string (strOfNums y.1), .int .i64 y.2.1, .string (strOfNums y.2.2)] : List Value)) 3 (fun _ => rfl) hkv i v h)
   have hat2 := fun i v h => hr2 (j * 3 + i) v (flat_at (fun y : List Int × Int × List Int => ([.string (strOfNums y.1), .int .i64 y.2.1, .string (strOfNums y.2.2)] : List Value)) 3 (fun _ => rfl) hkv i v h)
   refine pK (pT (pS (pB (pS (pG (pM 1 rfl (pP (p_indexAddr rfl rfl (fun w => ia_slice Tryz.underlying36 sz71 (by omega) (by omega))) rfl (pR H (r_rw (vs := [.string (strOfNums kv.1), .int .i64 kv.2.1, .string (strOfNums kv.2.2)]) rfl (List.mem_cons_of_mem _ (List.mem_cons_of_mem _ hm1)) (fun i v h => (by rw [Nat.zero_add]; exact hat1 i v h)) ag71 sz71) rfl ?_))))))));intro a S
   refine l_alloc (cs := #[.string ⟨#[]⟩, .int .i64 0, .string ⟨#[]⟩]) S H rfl (fun w => al zv71) rfl rfl rfl ?_; clear S a H; intro g12 w a H S
   revert a;refine pM 1 rfl (pF [.string (strOfNums kv.1), .int .i64 kv.2.1, .string (strOfNums kv.2.2)] H rfl rfl sz71 .here ?_);clear H;intro w H
   refine pL (pT (pS ?_));intro a S
   refine d_start (id := 12) [] 7 (bA 7 0) H rfl rfl rfl (fun w H => ?_)
   revert a;refine qM [3] rfl (qR 0 H rfl (r_loadn (m := 3) (vs := [.string (strOfNums kv.1), .int .i64 kv.2.1, .string (strOfNums kv.2.2)]) rfl m0 ag71 sz71 rfl rfl) rfl (qA 1 fa40_2 rfl rfl rfl rfl (qE 2 H rfl rfl rfl m1 rfl ag36 rfl (qP 4 rfl (p_indexAddr rfl rfl (fun w => ia_slice Tryz.underlying36 sz71 (by omega) (by omega))) rfl (qR 5 H rfl (r_rw (vs := [.string (strOfNums kv.1), .int .i64 kv.2.1, .string (strOfNums kv.2.2)]) rfl (List.mem_cons_of_mem _ (List.mem_cons_of_mem _ (List.mem_cons_of_mem _ hm2))) (fun i v h => (by rw [Nat.zero_add]; exact hat2 i v h)) ag71 sz71) rfl (qP 6 rfl (p_bin (v := .bool false) rfl rfl (fun w => egE71 w _ _ _ _) (fun w => neE71 w _ _ _)) rfl (qD (pT (zf (pK (pI 3 (pT (pG (pP (p_add rfl rfl (nat_add (x := j) (y := 1) (by omega))) rfl (pM 1 rfl (pL ?_))))))))))))))))
   replace H := H.tail
   refine pT ?_;intro a S
   exact ⟨(j + 1), ⟨S.only ⟨rfl, rfl, rfl, rfl, rfl, trivial⟩, H, (show j + 1 ≤ x.fields.length by omega)⟩, (show x.fields.length - (j + 1) < x.fields.length - j from by omega)⟩
  have c11 := of_decide_eq_false bc11
  refine pX (pV (pV (pW (pT (pS (pG (pM 1 rfl (pL (pT (pZ ?_))))))))));intro a S
  exact r_ret1 S rfl rfl ⟨rfl, H.tail.tail⟩
 revert a;refine pG (pA fa40_0 rfl rfl rfl (pD H rfl rfl m1 rfl ag9 rfl (pA fa40_0 rfl rfl rfl (pD H rfl rfl m0 rfl ag9 rfl (pP (p_sneq rfl rfl) rfl (pM 1 rfl ?_))))));intro a S
 refine l_on S rfl rfl rfl rfl (by simp) ?_
 revert a;refine pA fa40_3 rfl rfl rfl ?_;intro a S
 refine l_on S rfl rfl rfl rfl (by simp) ?_
 revert a;refine pD H rfl rfl m1 rfl ag9 rfl ?_;intro a S
 refine l_on S rfl rfl rfl rfl (by simp) ?_
 revert a;refine pA fa40_3 rfl rfl rfl ?_;intro a S
 refine l_on S rfl rfl rfl rfl (by simp) ?_
 revert a;refine pD H rfl rfl m0 rfl ag9 rfl ?_;intro a S
 refine l_on S rfl rfl rfl rfl (by simp) ?_
 revert a;refine pP (p_sneq rfl rfl) rfl (pP (p_pick_f rfl (by simp) rfl) rfl (pM 1 rfl ?_));intro a S
 refine l_on S rfl rfl rfl rfl (by simp) ?_
 revert a;refine pA fa40_4 rfl rfl rfl ?_;intro a S
 refine l_on S rfl rfl rfl rfl (by simp) ?_
 revert a;refine pD H rfl rfl m1 rfl ag4 rfl ?_;intro a S
 refine l_on S rfl rfl rfl rfl (by simp) ?_
 revert a;refine pA fa40_4 rfl rfl rfl ?_;intro a S
 refine l_on S rfl rfl rfl rfl (by simp) ?_
 revert a;refine pD H rfl rfl m0 rfl ag4 rfl ?_;intro a S
 refine l_on S rfl rfl rfl rfl (by simp) ?_
 revert a;refine pP (p_bneq Tryz.underlying4 rfl rfl) rfl (pP (p_pick_f rfl (by simp) rfl) rfl (pM 1 rfl ?_));intro a S
 refine l_on S rfl rfl rfl rfl (by simp) ?_
 revert a;refine pA fa40_5 rfl rfl rfl ?_;intro a S
 refine l_on S rfl rfl rfl rfl (by simp) ?_
 revert a;refine pR H (r_loadn (m := 4) (vs := [.bool (fv4 x.f).1, .int .i64 (fv4 x.f).2.1, .int .i64 (fv4 x.f).2.2, .bool false]) rfl m1 ag38 sz38 rfl rfl) rfl ?_;intro a S
 refine l_on S rfl rfl rfl rfl (by simp) ?_
 revert a;refine pA fa40_5 rfl rfl rfl ?_;intro a S
 refine l_on S rfl rfl rfl rfl (by simp) ?_
 revert a;refine pR H (r_loadn (m := 4) (vs := [.bool (fv4 x.f).1, .int .i64 (fv4 x.f).2.1, .int .i64 (fv4 x.f).2.2, .bool false]) rfl m0 ag38 sz38 rfl rfl) rfl ?_;intro a S
 refine l_on S rfl rfl rfl rfl (by simp) ?_
 revert a;refine pP (p_bin (v := .bool false) rfl rfl (fun w => egE38 w _ _ _ _) (fun w => neE38 w _ _ _ _)) rfl (pP (p_pick_f rfl (by simp) rfl) rfl (pM 1 rfl (pN rfl (pA fa40_5 rfl rfl rfl (pN rfl (pA fa38_0 rfl rfl rfl (pN rfl (pD H rfl rfl m1 rfl ag4 rfl (pN rfl (pP (p_move rfl) rfl ?_))))))))));intro a S
 refine l_split (S.of 39 rfl) (fun bc23 => ?_) (fun bc23 => ?_)
 ·
  revert a;refine pN bc23 (pA fa40_6 rfl rfl rfl (pN bc23 (pD H rfl rfl m1 rfl ag3 rfl (pN bc23 (pA fa40_6 rfl rfl rfl (pN bc23 (pD H rfl rfl m0 rfl ag3 rfl (pN bc23 (pP (p_neq rfl rfl) rfl (pN rfl (pP (p_pick_t rfl bc23 rfl) rfl (pP (p_pick_f rfl rfl rfl) rfl (pM 1 rfl ?_)))))))))))));intro a S
  refine l_on S rfl rfl rfl rfl (bne_self_eq_false _) ?_
  revert a;refine pA fa40_1 rfl rfl rfl ?_;intro a S
  refine l_on S rfl rfl rfl rfl (bne_self_eq_false _) ?_
  revert a;refine pD H rfl rfl m1 rfl ag35 rfl ?_;intro a S
  refine l_on S rfl rfl rfl rfl (bne_self_eq_false _) ?_
  revert a;refine pP (p_len Tryz.underlying35 rfl) rfl ?_;intro a S
  refine l_on S rfl rfl rfl rfl (bne_self_eq_false _) ?_
  revert a;refine pA fa40_1 rfl rfl rfl ?_;intro a S
  refine l_on S rfl rfl rfl rfl (bne_self_eq_false _) ?_
  revert a;refine pD H rfl rfl m0 rfl ag35 rfl ?_;intro a S
  refine l_on S rfl rfl rfl rfl (bne_self_eq_false _) ?_
  revert a;refine pP (p_len Tryz.underlying35 rfl) rfl ?_;intro a S
  refine l_on S rfl rfl rfl rfl (bne_self_eq_false _) ?_
  revert a;refine pP (p_neq rfl rfl) rfl (pP (p_pick_f rfl (bne_self_eq_false _) rfl) rfl (pM 1 rfl ?_));intro a S
  refine l_on S rfl rfl rfl rfl (bne_self_eq_false _) ?_
  revert a;refine pA fa40_2 rfl rfl rfl ?_;intro a S
  refine l_on S rfl rfl rfl rfl (bne_self_eq_false _) ?_
  revert a;refine pD H rfl rfl m1 rfl ag36 rfl ?_;intro a S
  refine l_on S rfl rfl rfl rfl (bne_self_eq_false _) ?_
  revert a;refine pP (p_len Tryz.underlying36 rfl) rfl ?_;intro a S
  refine l_on S rfl rfl rfl rfl (bne_self_eq_false _) ?_
  revert a;refine pA fa40_2 rfl rfl rfl ?_;intro a S
  refine l_on S rfl rfl rfl rfl (bne_self_eq_false _) ?_
  revert a;refine pD H rfl rfl m0 rfl ag36 rfl ?_;intro a S
  refine l_on S rfl rfl rfl rfl (bne_self_eq_false _) ?_
  revert a;refine pP (p_len Tryz.underlying36 rfl) rfl ?_;intro a S
  refine l_on S rfl rfl rfl rfl (bne_self_eq_false _) ?_
  revert a;refine pP (p_neq rfl rfl) rfl (pP (p_pick_f rfl (bne_self_eq_false _) rfl) rfl (pL ?_));intro a S
  simp only [bne_self_eq_false] at S
  revert a;refine pT ?_;intro a S
  exact ⟨S.only ⟨rfl, rfl, rfl, trivial⟩, H⟩
 revert a;refine pO bc23 rfl (pO bc23 rfl (pO bc23 rfl (pO bc23 rfl (pO bc23 rfl (pN rfl (pP (p_pick_f rfl bc23 rfl) rfl (pP (p_pick_f rfl rfl rfl) rfl (pM 1 rfl (pN rfl (pA fa40_1 rfl rfl rfl (pN rfl (pD H rfl rfl m1 rfl ag35 rfl (pN rfl (pP (p_len Tryz.underlying35 rfl) rfl (pN rfl (pA fa40_1 rfl rfl rfl (pN rfl (pD H rfl rfl m0 rfl ag35 rfl (pN rfl (pP (p_len Tryz.underlying35 rfl) rfl (pN rfl (pP (p_neq rfl rfl) rfl (pP (p_pick_f rfl rfl rfl) rfl (pM 1 rfl ?_))))))))))))))))))))))));intro a S
 refine l_on S rfl rfl rfl rfl (bne_self_eq_false _) ?_
 revert a;refine pA fa40_2 rfl rfl rfl ?_;intro a S
 refine l_on S rfl rfl rfl rfl (bne_self_eq_false _) ?_
 revert a;refine pD H rfl rfl m1 rfl ag36 rfl ?_;intro a S
 refine l_on S rfl rfl rfl rfl (bne_self_eq_false _) ?_
 revert a;refine pP (p_len Tryz.underlying36 rfl) rfl ?_;intro a S
 refine l_on S rfl rfl rfl rfl (bne_self_eq_false _) ?_
 revert a;refine pA fa40_2 rfl rfl rfl ?_;intro a S
 refine l_on S rfl rfl rfl rfl (bne_self_eq_false _) ?_
 revert a;refine pD H rfl rfl m0 rfl ag36 rfl ?_;intro a S
 refine l_on S rfl rfl rfl rfl (bne_self_eq_false _) ?_
 revert a;refine pP (p_len Tryz.underlying36 rfl) rfl ?_;intro a S
 refine l_on S rfl rfl rfl rfl (bne_self_eq_false _) ?_
 revert a;refine pP (p_neq rfl rfl) rfl (pP (p_pick_f rfl (bne_self_eq_false _) rfl) rfl (pL ?_));intro a S
 simp only [bne_self_eq_false] at S
 revert a;refine pT ?_;intro a S
 exact ⟨S.only ⟨rfl, rfl, rfl, trivial⟩, H⟩
set_option maxHeartbeats 1000000 in
theorem same_ (wb w0 : World) (L0 : dc.Bk) (es : List Ent) (v1 v2 : Value) (h1 : ER L0 v1 es) (h2 : ER L0 v2 es) (hbd : ∀ x ∈ es, x.tags.length ≤ 5000 ∧ x.fields.length ≤ 5000) (hbn : es.length ≤ 100000) (H : HH wb.heap.size wb w0 L0) : Calls Tryz.prog 7 #[v1, v2] w0 fun e w' => e = .returned (.bool true) ∧ HH wb.heap.size wb w' L0 := by
 obtain ⟨xs1, ⟨A1, c1, rfl, hc1, hA1⟩, hE1⟩ := h1
 obtain ⟨xs2, ⟨B1, d1, rfl, hd1, hB1⟩, hE2⟩ := h2
 refine c_enter (args := [.slice A1 es.length c1, .slice B1 es.length d1]) (k := 25) Tryz.func7 rfl rfl rfl ?_
 refine pS (pG (pM 1 rfl (pL (pT (pS (pS (pG (pM 1 rfl (pP (p_len Tryz.underlying24 rfl) rfl (pM 1 rfl (pP (p_len Tryz.underlying24 rfl) rfl (pP (p_neq rfl rfl) rfl (pL (pT ?_))))))))))))));intro a S
 refine c_cond S rfl (fun h => by rw [(bne_self_eq_false _)] at h; cases h) (fun _ => ?_)
 revert a;refine pK (pT (pS (pS (pG (pM 1 rfl (pP (p_len Tryz.underlying24 rfl) rfl (pM 1 rfl (pL (pT (pB ?_))))))))));intro a S
 refine c_loop (σ := Nat) (fun s_ a w => match s_ with | j => SL a 27 [] [(0, .slice A1 es.length c1), (1, .slice B1 es.length d1), (12, .slice A1 es.length c1), (13, .int .i64 (es.length : Int)), (14, .int .i64 (j : Int))] ∧ HH (wb.heap.size) wb w L0 ∧ (j ≤ es.length)) (fun s_ => match s_ with | j => es.length - j) 0 ⟨S.only ⟨rfl, rfl, rfl, rfl, rfl, trivial⟩, H, Nat.zero_le _⟩ ?_
 clear S a H; rintro j a w ⟨S, H, hinv⟩
 have hj := hinv
 revert a;refine pS (pG (pP (p_lss rfl rfl) rfl (pL (pT (pS (zc rfl (fun bc5 => ?_) (fun bc5 => ?_)))))))
 ·
  have c5 := of_decide_eq_true bc5
  obtain ⟨p1, cs1, te1, f1, rfl, hm1, hr1⟩ := hA1.resolve_left (by omega)
  obtain ⟨q1, cs2, te2, f2, rfl, hm2, hr2⟩ := hB1.resolve_left (by omega)
  obtain ⟨x, hx⟩ : ∃ y, es[j]? = some y := ⟨_, List.getElem?_eq_getElem (by omega)⟩
  obtain ⟨tv, fv, ht, hf, hat1⟩ := hE1.at_ hx
  obtain ⟨tv', fv', ht', hf', hat2⟩ := hE2.at_ hx
  obtain ⟨hb1, hb2⟩ := hbd x (List.mem_of_getElem? hx)
  obtain ⟨A2, c2, rfl, hc2, ht2⟩ := id ht
  obtain ⟨A3, c3, rfl, hc3, hf2⟩ := id hf
  refine pK (pT (pS (pB (pS (pG (pM 1 rfl (pP (p_indexAddr rfl rfl (fun w => ia_slice Tryz.underlying24 sz40 (by omega) (by omega))) rfl (pR H (r_rw (vs := [.string (strOfNums x.name), .slice A2 x.tags.length c2, .slice A3 x.fields.length c3, .string (strOfNums x.time), .bool x.hasT, .bool (fv4 x.f).1, .int .i64 (fv4 x.f).2.1, .int .i64 (fv4 x.f).2.2, .bool false, .int .i64 x.part]) rfl hm1 (fun i v h => (by rw [Nat.zero_add]; exact hr1 _ _ (hat1 i v h))) ag40 sz40) rfl ?_))))))));intro a S
  refine l_alloc (cs := #[.string ⟨#[]⟩, .slice none 0 0, .slice none 0 0, .string ⟨#[]⟩, .bool false, .bool false, .int .i64 0, .int .i64 0, .bool false, .int .i64 0]) S H rfl (fun w => al zv40) rfl rfl rfl ?_; clear S a H; intro g6 w a H S
  revert a;refine pM 1 rfl (pF [.string (strOfNums x.name), .slice A2 x.tags.length c2, .slice A3 x.fields.length c3, .string (strOfNums x.time), .bool x.hasT, .bool (fv4 x.f).1, .int .i64 (fv4 x.f).2.1, .int .i64 (fv4 x.f).2.2, .bool false, .int .i64 x.part] H rfl rfl sz40 .here ?_);clear H;intro w H
  refine pL (pT (pS ?_));intro a S
  refine d_start (id := 6) [] 7 (bA 7 0) H rfl rfl rfl (fun w H => ?_)
  revert a;refine qM [1,2] rfl (qR 0 H rfl (r_loadn (m := 10) (vs := [.string (strOfNums x.name), .slice A2 x.tags.length c2, .slice A3 x.fields.length c3, .string (strOfNums x.time), .bool x.hasT, .bool (fv4 x.f).1, .int .i64 (fv4 x.f).2.1, .int .i64 (fv4 x.f).2.2, .bool false, .int .i64 x.part]) rfl m0 ag40 sz40 rfl rfl) rfl (qP 3 rfl (p_indexAddr rfl rfl (fun w => ia_slice Tryz.underlying24 sz40 (by omega) (by omega))) rfl (qR 4 H rfl (r_rw (vs := entV x tv' fv') rfl (List.mem_cons_of_mem _ hm2) (fun i v h => (by rw [Nat.zero_add]; exact hr2 _ _ (hat2 i v h))) ag40 sz40) rfl ?_)))
  have hcon := sameE_ wb w _ x (.slice A2 x.tags.length c2) (.slice A3 x.fields.length c3) tv' fv' (ht.mono fun y hy => List.mem_cons_of_mem _ hy) (hf.mono fun y hy => List.mem_cons_of_mem _ hy) (ht'.mono fun y hy => List.mem_cons_of_mem _ hy) (hf'.mono fun y hy => List.mem_cons_of_mem _ hy) hb1 hb2 H
  intro a S
  refine d_call (i := 5) (bA 7 63) S rfl rfl rfl Tryz.func13 rfl rfl hcon (wanted_none rfl) rfl rfl (by kernel_rfl) rfl ?_
  rintro e w ⟨rfl, hH⟩
  refine ⟨_, rfl, hH, ?_⟩; clear H hcon; have H := hH; clear hH;clear S a
  refine qP 6 rfl (p_not rfl) rfl (qD (pT (zf (pK (pI 1 (pT (pG (pP (p_add rfl rfl (nat_add (x := j) (y := 1) (by omega))) rfl (pM 1 rfl (pL ?_))))))))))
  replace H := H.tail
  refine pT ?_;intro a S
  exact ⟨(j + 1), ⟨S.only ⟨rfl, rfl, rfl, rfl, rfl, trivial⟩, H, (show j + 1 ≤ es.length by omega)⟩, (show es.length - (j + 1) < es.length - j from by omega)⟩
 have c5 := of_decide_eq_false bc5
 refine pX (pV (pV (pW (pT (pS (pG (pM 1 rfl (pL (pT (pZ ?_))))))))));intro a S
 exact r_ret1 S rfl rfl ⟨rfl, H⟩
end hs
end Go.Proofs.YtbahngfpadjbhaaGreatDoor.dec
end
section
namespace Go.Proofs.YtbahngfpadjbhaaGreatDoor.dt
open Go.RowKit Go.Proofs.HHW Go.Proofs.YtbahngfpadjbhaaGreatDoorW.PrintWords Go.Proofs.YtbahngfpadjbhaaGreatDoor.dc
theorem bti (s : ByteArray) (i : Nat) : HHW.bt s (i : Int) = (ints s).getD i 0 := by
 unfold HHW.bt ints
 rw [List.getD_eq_getElem?_getD, List.getElem?_map]
 split
 ·
  rename_i h
  rw [Int.toNat_natCast] at h
  have h2 : i < s.data.toList.length := by have : s.data.toList.length = s.size := Array.length_toList; omega
  rw [List.getElem?_eq_getElem h2]
  rfl
 ·
  rename_i h
  rw [Int.toNat_natCast] at h
  have h2 : s.data.toList.length ≤ i := by have : s.data.toList.length = s.size := Array.length_toList; omega
  rw [List.getElem?_eq_none h2]
  rfl
theorem ints_extract (s : ByteArray) (a b : Nat) : ints (s.extract a b) = ((ints s).take b).drop a := by
 unfold ints
 rw [ByteArray.data_extract, Array.toList_extract, List.extract_eq_take_drop, ← List.map_take, ← List.map_drop, List.drop_take]
theorem drop_getD (l : List Int) (p i : Nat) : (l.drop p).getD i 0 = l.getD (p + i) 0 := by
 rw [List.getD_eq_getElem?_getD, List.getElem?_drop, ← List.getD_eq_getElem?_getD]
theorem ints_by' (s : ByteArray) : ∀ x ∈ ints s, 0 ≤ x ∧ x < 256 := fun x hx => by have := ints_range s x hx; omega
theorem bt_nat (s : ByteArray) (i : Nat) : ∃ b : Nat, HHW.bt s (i : Int) = (b : Int) ∧ b < 256 ∧ ((ints s).getD i 0).toNat = b ∧ (ints s).getD i 0 = (b : Int) := by
 have h := HHW.bt_range s (i : Int)
 have e := bti s i
 exact ⟨(HHW.bt s (i : Int)).toNat, by omega, by omega, by rw [← e], by rw [← e]; omega⟩
theorem bt_natI (s : ByteArray) (i : Int) (k : Nat) (h : i = (k : Int)) : ∃ b : Nat, HHW.bt s i = (b : Int) ∧ b < 256 ∧ ((ints s).getD k 0).toNat = b ∧ (ints s).getD k 0 = (b : Int) := by subst h; exact bt_nat s k
theorem sE (s : ByteArray) : (s.toList == (⟨#[]⟩ : ByteArray).toList) = decide (s.size = 0) := by
 have h : s.toList = s.data.toList := ByteArray.toList_eq s
 have h0 : (⟨#[]⟩ : ByteArray).toList = [] := ByteArray.toList_eq _
 rw [h, h0]
 by_cases hs : s.size = 0
 ·
  have : s.data.toList = [] := List.length_eq_zero_iff.1 (by rw [Array.length_toList]; exact hs)
  rw [this, decide_eq_true hs]; rfl
 ·
  rw [decide_eq_false hs]
  cases h2 : s.data.toList with
  | nil => exact absurd (by have := Array.length_toList (xs := s.data); rw [h2] at this; exact this.symm) hs
  | cons x r => rfl
def sOf (m : Nat) : Nat := if m = 0 then 5 else if m = 1 then 2 else if m = 2 then 6 else if m = 3 then 7 else 8
abbrev hOf (m : Nat) : Nat → Nat := tabH (ints (escS m))
theorem hOf0 {c : Nat} (h : c < 256) : hOf 0 c = if c = 32 ∨ c = 44 then c else 0 := (by decide +kernel : ∀ c, c < 256 → hOf 0 c = if c = 32 ∨ c = 44 then c else 0) c h
theorem hOf1 {c : Nat} (h : c < 256) : hOf 1 c = if c = 44 ∨ c = 61 ∨ c = 32 then c else 0 := (by decide +kernel : ∀ c, c < 256 → hOf 1 c = if c = 44 ∨ c = 61 ∨ c = 32 then c else 0) c h
theorem hOf2 {c : Nat} (h : c < 256) : hOf 2 c = if c = 44 ∨ c = 61 ∨ c = 32 then c else 0 := (by decide +kernel : ∀ c, c < 256 → hOf 2 c = if c = 44 ∨ c = 61 ∨ c = 32 then c else 0) c h
theorem hOf3 {c : Nat} (h : c < 256) : hOf 3 c = if c = 44 ∨ c = 61 ∨ c = 32 then c else 0 := (by decide +kernel : ∀ c, c < 256 → hOf 3 c = if c = 44 ∨ c = 61 ∨ c = 32 then c else 0) c h
theorem hOf4 {c : Nat} (h : c < 256) : hOf 4 c = if c = 110 then 10 else if c = 114 then 13 else if c = 116 then 9 else if c = 92 ∨ c = 34 then c else 0 := (by decide +kernel : ∀ c, c < 256 → hOf 4 c = if c = 110 then 10 else if c = 114 then 13 else if c = 116 then 9 else if c = 92 ∨ c = 34 then c else 0) c h
theorem eol_drop {X : List Int} {p : Nat} (h : p ≤ X.length) : dc.eol (X.drop p) 0 = dc.eol X p := by
 unfold dc.eol
 simp only [List.length_drop, drop_getD, Nat.add_zero]
 have e1 : (X.length - p ≤ 0) ↔ (X.length ≤ p) := by omega
 have e2 : (X.length - p ≤ 0 + 1) ↔ (X.length ≤ p + 1) := by omega
 simp only [e1, e2, Nat.zero_add]
theorem eol_is {X : List Int} {p : Nat} (hlt : p < X.length) (h : (dc.eol X p).1 = true) : (X.getD p 0 = 10 ∨ X.getD p 0 = 13) ∧ 1 ≤ (dc.eol X p).2.1 := by
 by_cases h10 : X.getD p 0 = 10
 ·
  rw [eol_yes h10]; exact ⟨.inl h10, Nat.le_refl 1⟩
 by_cases h13 : X.getD p 0 = 13
 ·
  exact ⟨.inr h13, eol_cr h13 h⟩
 ·
  unfold dc.eol at h
  rw [if_neg (by omega), if_neg h10, if_neg h13] at h
  cases h
section
variable {X : List Int} {f p line : Nat}
theorem skip_e (h35 : X.getD (run 0 X p) 0 ≠ 35) (hlt : run 0 X p < X.length) (h : (dc.eol X (run 0 X p)).1 = true) : skipP X (f + 1) p line = skipP X f (run 0 X p + (dc.eol X (run 0 X p)).2.1) (line + (dc.eol X (run 0 X p)).2.2) := by
 rw [skipP, if_neg (by omega), if_neg h35, if_pos (eol_is hlt h).1, if_pos h]
theorem skip_en (h35 : X.getD (run 0 X p) 0 ≠ 35) (hlt : run 0 X p < X.length) (h : (dc.eol X (run 0 X p)).1 = false) : skipP X (f + 1) p line = (run 0 X p, line) := by
 rw [skipP, if_neg (by omega), if_neg h35]
 split
 ·
  rw [if_neg (by rw [h]; decide)]
 ·
  rfl
theorem skip_z (h : X.length ≤ run 0 X p) : skipP X (f + 1) p line = (run 0 X p, line) := by rw [skipP, if_pos h]
end
def nextA (X : List Int) (q : Nat) (part : Int) : Nat := if part = 5 then q else min (run 13 X q + 1) X.length
def skipA (X : List Int) (a : Nat) : Nat := a + (skipP (X.drop a) ((X.drop a).length + 1) 0 0).1
def nameA (X : List Int) (p : Nat) : Nat × Int × Bool :=
 if val (tkT 0 5 X p) = false then (tkQ 0 5 X p, 4, true)
 else if tkT 0 5 X p = [] then (tkQ 0 5 X p, 4, true)
 else if (tkT 0 5 X p).getD 0 0 = 35 then (tkQ 0 5 X p, 4, true)
 else if (comma X (tkQ 0 5 X p)).2 = true then ((comma X (tkQ 0 5 X p)).1, 4, true)
 else ((comma X (tkQ 0 5 X p)).1, 1, false)
theorem tkT_by {k s : Nat} (hk : k < 5) {X : List Int} (h : ∀ x ∈ X, 0 ≤ x ∧ x < 256) (p : Nat) : ∀ x ∈ tkT k s X p, 0 ≤ x ∧ x < 256 :=
 tk_by (fun j => (tab_lt k hk j).2) (X.drop p) fun x hx => h x (List.mem_of_mem_drop hx)
theorem tk_first {k s : Nat} (hk : k < 5) {X : List Int} (h : ∀ x ∈ X, 0 ≤ x ∧ x < 256) (p : Nat) : (ints (strOfNums (tkT k s X p))).getD 0 0 = (tkT k s X p).getD 0 0 := by rw [ints_nums (tkT_by hk h p)]
theorem tk_empty {k s : Nat} {X : List Int} {p : Nat} : (strOfNums (tkT k s X p)).size = 0 ↔ tkT k s X p = [] := by rw [nums_size]; exact List.length_eq_zero_iff
end Go.Proofs.YtbahngfpadjbhaaGreatDoor.dt
namespace Go.Proofs.HHW
open Go.RowKit Go.Proofs.YtbahngfpadjbhaaGreatDoorW.PrintWords YtbahngfpadjbhaaGreatDoorW.PrintLast
section
variable {P : Program} {ops : Array Oper} {Q : Exit → Act → World → Prop} {a : Act} {n : Nat} {ds : List Deferred} {F : List (Nat × Value)} {B : Nat} {w0 w : World} {L : List (Nat × Obj)}
end
theorem d_stores {P : Program} {ops : Array Oper} {Q : Exit → Act → World → Prop} {a : Act} {n : Nat} {ds : List Deferred} {F : List (Nat × Value)} {B : Nat} {w0 w : World} {L : List (Nat × Obj)} {dss : List Nat} {fuel : Nat} {l : Array Bool} {L' : List (Nat × Obj)} {K : World → Prop} {i : Nat} {oi : Oper} {t : TypeId} {x y : Operand} {g j : Nat} {cs : Array Value} {tt : TypeId} {vs : List Value} (l' : Array Bool) (S : SL a n ds F) (H : HH B w0 w L) (hi : ops[i]? = some oi) (ho : oi.op = .store t x y)
  (hx : ev F x = some (.pointer (some ⟨g, j, none⟩))) (hy : ev F y = some (.agg vs.toArray)) (hs : szB P t = some vs.length) (hu : Rep L g (.cells cs tt (0, 0)) g (.cells (spl cs j vs) tt (0, 0)) L') (hj : j + vs.length ≤ cs.size) (h1 : ∀ v ∈ vs, v.oneCell' = true)
  (hw : Region.wanted oi (yielded ops a.tmps) = true) (hd : oi.dst = none) (hc : YtbahngfpadjbhaaGreatDoorW.PrintLast.readyB .any ops l l' i = true) (hds : dss.contains i = true)
  (h : ∀ w a, HH B w0 w L' → SL a n ds F → YtbahngfpadjbhaaGreatDoorW.PrintLast.wpAnyLast P .any ops Q K dss fuel l' a w) : YtbahngfpadjbhaaGreatDoorW.PrintLast.wpAnyLast P .any ops Q K dss (fuel + 1) l a w := by
 obtain ⟨w', h2, h3⟩ := stores_ (P := P) (j := j) vs 0 cs H hu (by omega) h1
 refine YtbahngfpadjbhaaGreatDoorW.PrintLast.last_ l' hi hd hc (by simpa using hds) (fun K hK => YtbahngfpadjbhaaGreatDoorW.PrintLast.skip_ (w1 := w') hw hd ?_ (hK.out _ _ (h _ _ h3 S)))
 unfold execOp
 simp only [ho]
 rw [S.agree x _ hx, S.agree y _ hy]
 show ((Instr.storeAt t (.pointer (some ⟨g, j, none⟩)) (.agg vs.toArray)) >>= fun _ => pure Next.skip).run P w = _
 have h5 : (Instr.storeAt t (.pointer (some ⟨g, j, none⟩)) (.agg vs.toArray)).run P w = .ok () w' := by
  unfold Instr.storeAt
  rw [Sem.run_bind, show (Instr.sureAddr (.pointer (some ⟨g, j, none⟩))).run P w = .ok ⟨g, j, none⟩ w from rfl]
  show (storeVar t ⟨g, j, none⟩ (.agg vs.toArray)).run P w = _
  unfold storeVar
  rw [Sem.run_bind, run_size hs]
  have e0 : ¬ (Value.agg vs.toArray).cells.size ≠ vs.length := by simp [Value.cells]
  show (if (Value.agg vs.toArray).cells.size ≠ vs.length then _ else _ : Sem Unit).run P w = _
  rw [if_neg e0]
  exact h2
 rw [Sem.run_bind, h5]
 rfl
section
variable {P : Program} {ops : Array Oper} {Q : Exit → Act → World → Prop} {a : Act} {n : Nat} {ds : List Deferred} {F : List (Nat × Value)} {B : Nat} {w0 w : World} {L : List (Nat × Obj)}
theorem d_storeAllN {dss : List Nat} {fuel : Nat} {l : Array Bool} {L' : List (Nat × Obj)} {K : World → Prop} {i : Nat} {oi : Oper} {t : TypeId} {x y : Operand} {g : Nat} {cs : Array Value} {tt : TypeId} {vs : List Value} (l' : Array Bool) (S : SL a n ds F) (H : HH B w0 w L) (hi : ops[i]? = some oi) (ho : oi.op = .store t x y)
  (hx : ev F x = some (.pointer (some ⟨g, 0, none⟩))) (hy : ev F y = some (.agg vs.toArray)) (hs : szB P t = some vs.length) (hu : Rep L g (.cells cs tt (0, 0)) g (.cells vs.toArray tt (0, 0)) L') (hj : cs.size = vs.length) (h1 : ∀ v ∈ vs, v.oneCell' = true) (hsub : ∀ w, HH B w0 w L' → K w)
  (hw : Region.wanted oi (yielded ops a.tmps) = true) (hd : oi.dst = none) (hc : readyB .any ops l l' i = true) (hds : dss.contains i = false)
  (h : ∀ w a, HH B w0 w L' → SL a n ds F → wpAnyLast P .any ops Q K dss fuel l' a w) : wpAnyLast P .any ops Q K dss (fuel + 1) l a w := by
 obtain ⟨w', h2, h3⟩ := stores_ (P := P) (j := 0) vs 0 cs H (by rw [spl_all hj]; exact hu) (by omega) h1
 refine one_ l' hi hd hc (by simpa using hds) (fun K' hK => skip_ (w1 := w') hw hd ?_ (hK.out _ _ (hsub _ h3) (fun _ => h _ _ h3 S)))
 unfold execOp
 simp only [ho]
 rw [S.agree x _ hx, S.agree y _ hy]
 show ((Instr.storeAt t (.pointer (some ⟨g, 0, none⟩)) (.agg vs.toArray)) >>= fun _ => pure Next.skip).run P w = _
 have h5 : (Instr.storeAt t (.pointer (some ⟨g, 0, none⟩)) (.agg vs.toArray)).run P w = .ok () w' := by
  unfold Instr.storeAt
  rw [Sem.run_bind, show (Instr.sureAddr (.pointer (some ⟨g, 0, none⟩))).run P w = .ok ⟨g, 0, none⟩ w from rfl]
  show (storeVar t ⟨g, 0, none⟩ (.agg vs.toArray)).run P w = _
  unfold storeVar
  rw [Sem.run_bind, run_size hs]
  have e0 : ¬ (Value.agg vs.toArray).cells.size ≠ vs.length := by simp [Value.cells]
  show (if (Value.agg vs.toArray).cells.size ≠ vs.length then _ else _ : Sem Unit).run P w = _
  rw [if_neg e0]
  exact h2
 rw [Sem.run_bind, h5]
 rfl
end
section
variable {P : Program} {fn : Func} {R : Ending → World → Prop} {a : Act} {n : Nat} {F : List (Nat × Value)} {w : World} {t t' t'' : Tmp} {ty ty' : TypeId} {ad bd : Addr} {v v' v'' : Value}
theorem r_rettc (S : SL a n [] F) (hr : fn.results = #[.tmp t, .cell t' ty]) (h1 : slot F t = some v) (h2 : slot F t' = some (.pointer (some ad))) (h3 : (loadVar ty ad).run P w = .ok v' w) (h : R (.returned (.tuple #[v, v'])) w) : bodyPost P fn R .ret a w := by
 refine ⟨S.defers, _, ?_, h⟩
 simp [results, hr, S.at_ t _ h1, S.at_ t' _ h2, asAddr, Sem.run_bind, Result.andThen, h3]
theorem r_retttc (S : SL a n [] F) (hr : fn.results = #[.tmp t, .tmp t', .cell t'' ty]) (h1 : slot F t = some v) (h2 : slot F t' = some v') (h3 : slot F t'' = some (.pointer (some ad))) (h4 : (loadVar ty ad).run P w = .ok v'' w) (h : R (.returned (.tuple #[v, v', v''])) w) : bodyPost P fn R .ret a w := by
 refine ⟨S.defers, _, ?_, h⟩
 simp [results, hr, S.at_ t _ h1, S.at_ t' _ h2, S.at_ t'' _ h3, asAddr, Sem.run_bind, Result.andThen, h4]
theorem r_retctc (S : SL a n [] F) (hr : fn.results = #[.cell t ty, .tmp t', .cell t'' ty']) (h1 : slot F t = some (.pointer (some ad))) (h2 : slot F t' = some v') (h3 : slot F t'' = some (.pointer (some bd))) (h4 : (loadVar ty ad).run P w = .ok v w) (h5 : (loadVar ty' bd).run P w = .ok v'' w) (h : R (.returned (.tuple #[v, v', v''])) w) : bodyPost P fn R .ret a w := by
 refine ⟨S.defers, _, ?_, h⟩
 simp [results, hr, S.at_ t _ h1, S.at_ t' _ h2, S.at_ t'' _ h3, asAddr, Sem.run_bind, Result.andThen, h4, h5]
end
end Go.Proofs.HHW
end
