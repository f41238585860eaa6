/- Words of this seat's own: slices of bytes that can be read; plain words of tokens and faults. -/
import Derived.Test.YtbahngfpadjbhaaDoorDv
import Derived.Test.YtbahngfpadjbhaaDoorBt
import Derived.Test.YtbahngfpadjbhaaDoorUp
import Derived.Shelf.Unicode.DecodeSlow
namespace Go.Proofs.HHW
open Go.RowKit Go.Proofs.YtbahngfpadjbhaaDoorW.PrintWords
set_option linter.unusedVariables false
set_option linter.unusedSimpArgs false
/-- A slice of bytes that lie in memory. -/
def SB (w : World) (A : Option Addr) (c : Nat) (l : List Int) : Prop := l.length ≤ c ∧ ((l = [] ∧ A = none ∧ c = 0) ∨ ∃ g o, A = some ⟨g, o, none⟩ ∧ RB w g o l)
theorem SB.later {w w' : World} {A : Option Addr} {c : Nat} {l : List Int} (h : SB w A c l) (hb : Below w.heap.size w w') : SB w' A c l := by
  obtain ⟨h1, h2 | ⟨g, o, h2, h3⟩⟩ := h
  · exact ⟨h1, .inl h2⟩
  · exact ⟨h1, .inr ⟨g, o, h2, h3.later hb⟩⟩
theorem SB.get {w : World} {A : Option Addr} {c : Nat} {l : List Int} (h : SB w A c l) {i : Nat} (hi : i < l.length) : ∃ g o, A = some ⟨g, o, none⟩ ∧ RB w g o l := by
  obtain ⟨h1, ⟨rfl, _⟩ | h2⟩ := h
  · simp at hi
  · exact h2
theorem SB.cut {w : World} {A : Option Addr} {c : Nat} {l : List Int} (h : SB w A c l) {m j : Nat} (hm : m ≤ j) (hj : j ≤ l.length) : SB w (cutAt A c m 1) (c - m) ((l.take j).drop m) := by
  obtain ⟨h1, h2⟩ := h
  refine ⟨by rw [List.length_drop, List.length_take]; omega, ?_⟩
  rcases h2 with ⟨rfl, rfl, rfl⟩ | ⟨g, o, rfl, h3⟩
  · refine .inl ⟨by simp, ?_, by omega⟩
    unfold cutAt
    split <;> rfl
  · exact .inr ⟨g, _, cutAt_off .., h3.cut m j h1⟩
theorem SB.drop {w : World} {A : Option Addr} {c : Nat} {l : List Int} (h : SB w A c l) {m : Nat} (hm : m ≤ l.length) : SB w (cutAt A c m 1) (c - m) (l.drop m) := by
  have := h.cut hm (Nat.le_refl _)
  rwa [List.take_of_length_le (Nat.le_refl _)] at this
theorem SB.take {w : World} {A : Option Addr} {c : Nat} {l : List Int} (h : SB w A c l) (m : Nat) : SB w A c (l.take m) := by
  obtain ⟨h1, h2⟩ := h
  refine ⟨by rw [List.length_take]; omega, ?_⟩
  rcases h2 with ⟨rfl, rfl, rfl⟩ | ⟨g, o, rfl, h3⟩
  · exact .inl ⟨by simp, rfl, rfl⟩
  · exact .inr ⟨g, o, rfl, h3.take m⟩
theorem SB.C {w : World} {A : Option Addr} {c : Nat} {l : List Int} (h : SB w A c l) (hl : l.length ≤ 9223372036854775807) : (Kd.int .u8).C w A l.length l := by
  obtain ⟨h1, ⟨rfl, rfl, rfl⟩ | ⟨g, o, rfl, h3⟩⟩ := h
  · exact ⟨rfl, by simp, fun h => absurd h (by simp)⟩
  · exact h3.C hl
theorem SB.src {w : World} {A : Option Addr} {c : Nat} {l : List Int} {P : Program} {tx e' : TypeId} (h : SB w A c l) (hl : l.length ≤ 9223372036854775807) (hk : P.underlying tx = some (.slice e')) : Src P 1 tx (.slice A l.length c) l.length (l.map (Value.int .u8)) w := src_C hk (h.C hl)
theorem SB.buf {w : World} {te : TypeId} {A : Option Addr} {l : List Int} {c : Nat} {cm : Bool} {mb L : YtbahngfpadjbhaaDoor.dc.Bk} {x : Nat × Obj} {B : Nat} {wb : World} (h : YtbahngfpadjbhaaDoor.dc.Buf te A l c cm mb) (H : HH B wb w (x :: (mb ++ L))) : SB w A c l := by
  obtain ⟨h1, _, ⟨rfl, rfl, rfl⟩ | ⟨g, cs, f, rfl, _, rfl, _, hr⟩⟩ := h
  · exact ⟨h1, .inl ⟨List.length_eq_zero_iff.1 (by omega), rfl, rfl⟩⟩
  · exact ⟨h1, .inr ⟨g, 0, rfl, RB.of H (List.mem_cons_of_mem _ (List.mem_append_left _ List.mem_cons_self)) hr⟩⟩
theorem SB.own {w : World} {te : TypeId} {A : Option Addr} {l : List Int} {c : Nat} {ow L : YtbahngfpadjbhaaDoor.dc.Bk} {B : Nat} {wb : World} (h : OwnB te (.slice A l.length c) l ow) (H : HH B wb w (ow ++ L)) : SB w A c l := by
  rcases Nat.eq_zero_or_pos l.length with h0 | h0
  · obtain rfl := List.length_eq_zero_iff.1 h0
    obtain ⟨_, ⟨hv, _, _⟩ | ⟨g, cs, c', f, hv, hc, _, _, _, _⟩⟩ := h
    · injection hv with e1 _ e3
      exact ⟨by simp, .inl ⟨rfl, e1, e3⟩⟩
    · injection hv with e1 _ e3
      exact ⟨by simp, .inr ⟨g, 0, e1, fun i v hi => by simp at hi⟩⟩
  · obtain ⟨g, rfl, hr, hc, _⟩ := h.rb H h0
    exact ⟨hc, .inr ⟨g, 0, rfl, hr⟩⟩
theorem sl_sb {P : Program} {t e : TypeId} {w : World} {k k' : IntKind} {l : List Int} {m h c : Nat} {A : Option Addr} {i j : Int} (hu : P.underlying t = some (.slice e)) (hs : szB P e = some 1) (hi : i = (m : Int)) (hj : j = (h : Int)) (hm : m ≤ h) (hh : h ≤ l.length) (hc : l.length ≤ c) :
    (Instr.sliceAt t (.slice A l.length c) (some (.int k i)) (some (.int k' j)) none).run P w = .ok (.slice (cutAt A c m 1) ((l.take h).drop m).length (c - m)) w := by
  subst hi hj
  rw [sl_slice hu hs (by omega) (by omega) (by omega), Int.toNat_natCast, Int.toNat_natCast, List.length_drop, List.length_take, Nat.min_eq_left hh]
theorem sl_sb_lo {P : Program} {t e : TypeId} {w : World} {k : IntKind} {l : List Int} {m c : Nat} {A : Option Addr} {i : Int} (hu : P.underlying t = some (.slice e)) (hs : szB P e = some 1) (hi : i = (m : Int)) (hm : m ≤ l.length) :
    (Instr.sliceAt t (.slice A l.length c) (some (.int k i)) none none).run P w = .ok (.slice (cutAt A c m 1) (l.drop m).length (c - m)) w := by
  subst hi
  rw [sl_slice_lo hu hs (by omega) (by omega), Int.toNat_natCast, List.length_drop]
/-! ### plainly -/
/-- How often a byte stands there. -/
def cnt (b : Int) (l : List Int) : Nat := l.countP (· == b)
theorem cnt_zero (b : Int) (l : List Int) : cnt b (l.take 0) = 0 := rfl
theorem cnt_succ (b : Int) {l : List Int} {j : Nat} (h : j < l.length) : cnt b (l.take (j + 1)) = cnt b (l.take j) + if l.getD j 0 = b then 1 else 0 := by
  unfold cnt
  rw [List.take_add_one, get_some 0 h, List.countP_append]
  by_cases e : l.getD j 0 = b <;> simp [List.countP_cons, e]
theorem cnt_le (b : Int) (l : List Int) : cnt b l ≤ l.length := List.countP_le_length
/-- One more than the place of the last such byte, 0 if there is none. -/
def lastp (b : Int) (l : List Int) : Nat → Nat
  | 0 => 0
  | k + 1 => if l.getD k 0 = b then k + 1 else lastp b l k
theorem lastp_le (b : Int) (l : List Int) : ∀ k, lastp b l k ≤ k
  | 0 => Nat.le_refl _
  | k + 1 => by
    unfold lastp
    have := lastp_le b l k
    split <;> omega
theorem lastp_hit {b : Int} {l : List Int} {k : Nat} (h : l.getD k 0 = b) : lastp b l (k + 1) = k + 1 := if_pos h
theorem lastp_miss {b : Int} {l : List Int} {k : Nat} (h : l.getD k 0 ≠ b) : lastp b l (k + 1) = lastp b l k := if_neg h
theorem seg_eq {l X : List Int} {r0 v b : Nat} (a : Nat) (hdr : l.drop r0 = X.take v) (hb : b ≤ v) : (l.take (r0 + b)).drop (r0 + a) = (X.take b).drop a := by
  have h1 : (l.take (r0 + b)).drop (r0 + a) = ((l.drop r0).take b).drop a := by
    rw [← List.drop_drop, List.drop_take, Nat.add_sub_cancel_left]
  rw [h1, hdr, List.take_take, Nat.min_eq_left hb]
theorem seg_eq0 {l X : List Int} {r0 v b : Nat} (hdr : l.drop r0 = X.take v) (hb : b ≤ v) : (l.take (r0 + b)).drop r0 = X.take b := by
  have := seg_eq 0 hdr hb
  rwa [Nat.add_zero, List.drop_zero] at this
/-! ### eight bytes at once -/
theorem bv8_get {l : List Int} (hby : ∀ x ∈ l, 0 ≤ x ∧ x < 256) {i : Nat} (hi : i < l.length) : l[i]? = some ((BitVec.ofInt 8 (l.getD i 0)).toNat : Int) := by
  rw [get_some 0 hi]
  have hm : l.getD i 0 ∈ l := by
    rw [List.getD_eq_getElem?_getD, List.getElem?_eq_getElem hi]
    exact List.getElem_mem hi
  have := hby _ hm
  congr 1
  rw [BitVec.toNat_ofInt]
  omega
theorem top8 (x : Int) (h : 0 ≤ x ∧ x < 256) : (BitVec.ofInt 8 x).getLsbD 7 = decide (128 ≤ x) := by
  have e : (BitVec.ofInt 8 x).getLsbD 7 = (BitVec.ofInt 8 x).msb := by simp [BitVec.msb_eq_getLsbD_last]
  rw [e, BitVec.msb_eq_decide, BitVec.toNat_ofInt]
  simp only [decide_eq_decide]
  omega
theorem word_bits (b0 b1 b2 b3 b4 b5 b6 b7 : BitVec 8) : ∀ k, k < 8 → ((((((((b0.setWidth 64) ||| ((b1.setWidth 64) <<< 8)) ||| ((b2.setWidth 64) <<< 16)) ||| ((b3.setWidth 64) <<< 24)) ||| ((b4.setWidth 64) <<< 32)) ||| ((b5.setWidth 64) <<< 40)) ||| ((b6.setWidth 64) <<< 48)) ||| ((b7.setWidth 64) <<< 56)).getLsbD (8 * k + 7) = ([b0, b1, b2, b3, b4, b5, b6, b7].getD k 0).getLsbD 7 := by
  intro k hk
  rcases (show k = 0 ∨ k = 1 ∨ k = 2 ∨ k = 3 ∨ k = 4 ∨ k = 5 ∨ k = 6 ∨ k = 7 by omega) with rfl | rfl | rfl | rfl | rfl | rfl | rfl | rfl <;> simp [BitVec.getLsbD_or, BitVec.getLsbD_shiftLeft, BitVec.getLsbD_setWidth]
theorem word_tops {l : List Int} (hby : ∀ x ∈ l, 0 ≤ x ∧ x < 256) (h8 : 8 ≤ l.length) : ∀ k, k < 8 → ([BitVec.ofInt 8 (l.getD 0 0), BitVec.ofInt 8 (l.getD 1 0), BitVec.ofInt 8 (l.getD 2 0), BitVec.ofInt 8 (l.getD 3 0), BitVec.ofInt 8 (l.getD 4 0), BitVec.ofInt 8 (l.getD 5 0), BitVec.ofInt 8 (l.getD 6 0), BitVec.ofInt 8 (l.getD 7 0)].getD k 0).getLsbD 7 = decide (128 ≤ l.getD k 0) := by
  intro k hk
  have hm : ∀ i, i < 8 → 0 ≤ l.getD i 0 ∧ l.getD i 0 < 256 := fun i hi => hby _ (by
    rw [List.getD_eq_getElem?_getD, List.getElem?_eq_getElem (show i < l.length by omega)]
    exact List.getElem_mem _)
  rcases (show k = 0 ∨ k = 1 ∨ k = 2 ∨ k = 3 ∨ k = 4 ∨ k = 5 ∨ k = 6 ∨ k = 7 by omega) with rfl | rfl | rfl | rfl | rfl | rfl | rfl | rfl <;> exact top8 _ (hm _ (by omega))
theorem mask_low {x : BitVec 64} (h : ((x &&& 9259542123273814144#64).toNat : Int) = 0) : ∀ k, k < 8 → x.getLsbD (8 * k + 7) = false := by
  intro k hk
  have h0 : x &&& 9259542123273814144#64 = 0#64 := BitVec.eq_of_toNat_eq (by rw [show (0#64).toNat = 0 from rfl]; omega)
  have h1 := congrArg (fun z => BitVec.getLsbD z (8 * k + 7)) h0
  simp only [BitVec.getLsbD_and] at h1
  rcases (show k = 0 ∨ k = 1 ∨ k = 2 ∨ k = 3 ∨ k = 4 ∨ k = 5 ∨ k = 6 ∨ k = 7 by omega) with rfl | rfl | rfl | rfl | rfl | rfl | rfl | rfl <;> simpa using h1
theorem mask_or {x y : BitVec 64} (h : (((x ||| y) &&& 9259542123273814144#64).toNat : Int) = 0) : ((x &&& 9259542123273814144#64).toNat : Int) = 0 ∧ ((y &&& 9259542123273814144#64).toNat : Int) = 0 := by
  have h0 : (x ||| y) &&& 9259542123273814144#64 = 0#64 := BitVec.eq_of_toNat_eq (by rw [show (0#64).toNat = 0 from rfl]; omega)
  have hx : x &&& 9259542123273814144#64 = 0#64 := by
    apply BitVec.eq_of_getLsbD_eq
    intro i hi
    have h1 := congrArg (fun z => BitVec.getLsbD z i) h0
    simp only [BitVec.getLsbD_and, BitVec.getLsbD_or] at h1 ⊢
    revert h1
    cases x.getLsbD i <;> simp
  have hy : y &&& 9259542123273814144#64 = 0#64 := by
    apply BitVec.eq_of_getLsbD_eq
    intro i hi
    have h1 := congrArg (fun z => BitVec.getLsbD z i) h0
    simp only [BitVec.getLsbD_and, BitVec.getLsbD_or] at h1 ⊢
    revert h1
    cases y.getLsbD i <;> simp
  rw [hx, hy]
  exact ⟨rfl, rfl⟩
theorem int_at (s : ByteArray) {i k j : Nat} (hj : j = i + k) (h : j < s.size) : ((ints s).drop i)[k]? = some (HHW.bt s (j : Int)) := by
  subst hj
  rw [List.getElem?_drop, ints_bt s h]
  have := HHW.bt_range s ((i + k : Nat) : Int)
  congr 1
  omega
theorem ints_by (s : ByteArray) (m : Nat) : ∀ x ∈ (ints s).drop m, 0 ≤ x ∧ x < 256 := fun x hx => by have := ints_range s x (List.mem_of_mem_drop hx); omega
open YtbahngfpadjbhaaDoor in
theorem V_skip {s : ByteArray} {i : Nat} : ∀ m : Nat, (∀ k, k < m → i + k < s.size ∧ HHW.bt s ((i + k : Nat) : Int) < 128) → up.V s i = up.V s (i + m)
  | 0, _ => rfl
  | m + 1, h => by
    rw [V_skip m (fun k hk => h k (by omega)), up.V_ascii (h m (by omega)).1 (h m (by omega)).2]
    rfl
open YtbahngfpadjbhaaDoor in
theorem V_word {s : ByteArray} {j : Nat} {x : BitVec 64} (hx : ∀ k, k < 8 → x.getLsbD (8 * k + 7) = decide (128 ≤ ((ints s).drop j).getD k 0)) (hm : ((x &&& 9259542123273814144#64).toNat : Int) = 0) (hj : j + 8 ≤ s.size) : up.V s j = up.V s (j + 8) :=
  V_skip 8 fun k hk => ⟨by omega, by
    have h1 := hx k hk
    rw [mask_low hm k hk, List.getD_eq_getElem?_getD, int_at s rfl (show j + k < s.size by omega)] at h1
    have := of_decide_eq_false h1.symm
    simp only [Option.getD_some] at this
    omega⟩
/-! ### tables of the old memory -/
section
variable {P : Program} {F : List (Nat × Value)} {B : Nat} {w0 : World} {L : List (Nat × Obj)}
theorem r_tab {t : TypeId} {x : Operand} {g i j : Nat} {v : Value} (hx : ev F x = some (.pointer (some ⟨g, j, none⟩))) (hj : j = i) (hc : w0.cell? ⟨g, i, none⟩ = some v) (hB : B = w0.heap.size) (ha : aggB P t = some false) : Reads P F B w0 L (.load t x) v := by
  subst hj
  exact r_loadG hx hc (by rw [hB]; exact cell_lt hc) ha
theorem r_pairG {t : TypeId} {x : Operand} {g i j : Nat} {v0 v1 : Value} (hx : ev F x = some (.pointer (some ⟨g, j, none⟩))) (hj : j = i) (h0 : w0.cell? ⟨g, i, none⟩ = some v0) (h1 : w0.cell? ⟨g, i + 1, none⟩ = some v1) (hB : B = w0.heap.size) (ha : aggB P t = some true) (hs : szB P t = some 2) : Reads P F B w0 L (.load t x) (.agg #[v0, v1]) := by
  subst hj hB
  refine r_loads hx (fun w H => ldn ha (cs := [v0, v1]) hs (fun k v hk => ?_))
  match k, hk with
  | 0, hk => simp at hk; subst hk; exact cell_later h0 H.below
  | 1, hk => simp at hk; subst hk; exact cell_later h1 H.below
  | k + 2, hk => simp at hk
end
set_option maxRecDepth 20000 in
theorem and7 : ∀ X : Fin 256, IntKind.u8.wrap (BitVec.ofInt IntKind.u8.bits ((X.val : Nat) : Int) &&& BitVec.ofInt IntKind.u8.bits 7).toNat = ((X.val % 8 : Nat) : Int) := by decide
theorem shr4 (x : Nat) : ((x : Nat) : Int).fdiv (2 ^ (min (4 : Int).toNat IntKind.u8.bits)) = ((x / 16 : Nat) : Int) := by
  show ((x : Nat) : Int).fdiv (2 ^ 4) = _
  rw [Int.fdiv_eq_ediv_of_nonneg _ (by decide)]
  omega
theorem firstT_lt (n : Nat) : Lib.firstT n < 256 := by
  rcases Lib.firstT_cases n with h | h | h | h | h | h | h | h | h <;> omega
theorem firstT_hi {n : Nat} : Lib.firstT n / 16 < 16 := by have := firstT_lt n; omega
theorem sl_max {P : Program} {t e : TypeId} {w : World} {k k' : IntKind} {n c : Nat} {A : Option Addr} (hu : P.underlying t = some (.slice e)) (hs : szB P e = some 1) (hc : n ≤ c) :
    (Instr.sliceAt t (.slice A n c) none (some (.int k (n : Int))) (some (.int k' (n : Int)))).run P w = .ok (.slice A n n) w := by
  unfold Instr.sliceAt
  rw [Sem.run_bind, run_underlying hu]
  show (Instr.slice t (.slice A n c) none (some (.int k (n : Int))) (some (.int k' (n : Int)))).run P w = _
  unfold Instr.slice
  rw [Sem.run_bind, run_underlying hu]
  simp only [Result.andThen]
  have : (A.map (·.add (0 * 1))) = A := by cases A <;> simp [Addr.add]
  simp [Instr.sliceBounds, Instr.sliceBound, asIntOf, Sem.run_bind, Result.andThen, hc, run_size hs]
  intro _
  cases A <;> simp [Addr.add]
theorem SB.max {w : World} {A : Option Addr} {c : Nat} {l : List Int} (h : SB w A c l) : SB w A l.length l := by
  obtain ⟨h1, h2 | h2⟩ := h
  · exact ⟨Nat.le_refl _, .inl ⟨h2.1, h2.2.1, by rw [h2.1]; rfl⟩⟩
  · exact ⟨Nat.le_refl _, .inr h2⟩
end Go.Proofs.HHW
