/- FnClusterSlot: the plain law. -/
import Derived.Test.YtcjdadfiedoflaaSb
import Derived.Test.YtcjdadfiedoflaaPFnClusterSlotx1
import Derived.Laws.BitsLemmas
import Derived.Lib.BytesEntry
namespace Go.Proofs.Ytcjdadfiedoflaa.slotp
open Go.RowKit Go.Proofs.HHW Go.Proofs.YtcjdadfiedoflaaW.PrintWords Go.Proofs.YtcjdadfiedoflaaW.PrintMore PFnClusterSlot
theorem w64 {n : Int} (h : -9223372036854775808 ≤ n ∧ n ≤ 9223372036854775807) : wrap64 n = n := by unfold wrap64; omega
/-! ### the first place of a byte -/
def fnd (l : List Int) (x : Int) (i : Nat) : Nat := i + (l.drop i).findIdx (· == x)
theorem fnd_end {l : List Int} {x : Int} {i : Nat} (h : l.length ≤ i) : fnd l x i = i := by
  unfold fnd; rw [List.drop_eq_nil_of_le h]; rfl
theorem drop_cons {l : List Int} {i : Nat} {y : Int} (h : l[i]? = some y) : l.drop i = y :: l.drop (i + 1) := by
  obtain ⟨h1, h2⟩ := List.getElem?_eq_some_iff.1 h
  rw [List.drop_eq_getElem_cons h1, h2]
theorem fnd_hit {l : List Int} {x : Int} {i : Nat} (h : l[i]? = some x) : fnd l x i = i := by
  unfold fnd; rw [drop_cons h]; simp [List.findIdx_cons]
theorem fnd_skip {l : List Int} {x y : Int} {i : Nat} (h : l[i]? = some y) (hn : y ≠ x) : fnd l x i = fnd l x (i + 1) := by
  unfold fnd; rw [drop_cons h]
  have e : (y == x) = false := by simpa using hn
  simp only [List.findIdx_cons, e, cond_false]; omega
theorem fnd_le {l : List Int} {x : Int} {i : Nat} (h : i ≤ l.length) : fnd l x i ≤ l.length := by
  unfold fnd
  have := List.findIdx_le_length (xs := l.drop i) (p := (· == x))
  rw [List.length_drop] at this; omega
theorem fnd_ge (l : List Int) (x : Int) (i : Nat) : i ≤ fnd l x i := by unfold fnd; omega
def ix (l : List Int) (x : Int) : Int := Lib.indexByte (Lib.bytesOf l) x.toNat.toUInt8
theorem u8_eq {x y : Int} (hx : 0 ≤ x ∧ x ≤ 255) (hy : 0 ≤ y ∧ y ≤ 255) : ((x.toNat.toUInt8 == y.toNat.toUInt8) = (x == y)) := by
  obtain ⟨a, rfl⟩ := Int.eq_ofNat_of_zero_le hx.1
  obtain ⟨b, rfl⟩ := Int.eq_ofNat_of_zero_le hy.1
  by_cases h : a = b
  · subst h; simp
  · have h1 : ¬ (a.toUInt8 = b.toUInt8) := by
      intro e
      have := congrArg UInt8.toNat e
      simp at this
      omega
    have h2 : ¬ ((a : Int) = b) := by omega
    have e1 := beq_eq_false_iff_ne.2 h1
    have e2 := beq_eq_false_iff_ne.2 h2
    simp only [Int.toNat_natCast]
    rw [e1, e2]
theorem ix_eq (l : List Int) (x : Int) (hx : 0 ≤ x ∧ x ≤ 255) (hl : ∀ y ∈ l, 0 ≤ y ∧ y ≤ 255) : ix l x = if fnd l x 0 < l.length then (fnd l x 0 : Int) else -1 := by
  unfold ix fnd
  simp only [List.drop_zero, Nat.zero_add]
  induction l with
  | nil => simp [Lib.bytesOf, Lib.indexByte]
  | cons y l ih =>
    have ih := ih (fun z hz => hl z (List.mem_cons_of_mem _ hz))
    simp only [Lib.bytesOf, List.map_cons, Lib.indexByte, List.findIdx_cons, List.length_cons] at ih ⊢
    have hy := u8_eq (hl y List.mem_cons_self) hx
    have e2 : (UInt8.ofNat y.toNat == x.toNat.toUInt8) = (y == x) := hy
    rw [e2, ih]
    by_cases h : y = x
    · subst h; simp
    · simp only [beq_iff_eq, h, if_false]
      have : (y == x) = false := by simpa using h
      simp only [this, cond_false]
      by_cases hlt : l.findIdx (· == x) < l.length
      · rw [if_pos hlt, if_neg (by omega), if_pos (by omega)]; omega
      · rw [if_neg hlt, if_pos rfl, if_neg (by omega)]
def tagOf (l : List Int) : List Int :=
  let p := fnd l 123 0; let q := fnd l 125 (p + 1)
  if q < l.length ∧ q ≠ p + 1 then (l.take q).drop (p + 1) else l
theorem tag_len (l : List Int) : (tagOf l).length ≤ l.length := by
  unfold tagOf; simp only; split
  · simp; omega
  · exact Nat.le_refl _
theorem tag_range {l : List Int} (hl : ∀ y ∈ l, 0 ≤ y ∧ y ≤ 255) : ∀ y ∈ tagOf l, 0 ≤ y ∧ y ≤ 255 := by
  unfold tagOf; simp only; split
  · exact fun y hy => hl y (List.mem_of_mem_take (List.mem_of_mem_drop hy))
  · exact hl
/-! ### the sums -/
def S (a : BitVec 16) : BitVec 16 := (a <<< 1) ^^^ (if a.msb then 4129#16 else 0#16)
def R (a : BitVec 16) (t : Bool) : BitVec 16 := (a <<< 1) ^^^ (if a.msb = t then 0#16 else 4129#16)
def top (t : Bool) : BitVec 16 := if t then 32768#16 else 0#16
theorem R_S (a : BitVec 16) (t : Bool) : R a t = S (a ^^^ top t) := by
  unfold R S
  rw [BitVec.shiftLeft_xor_distrib, BitVec.msb_xor]
  have h1 : top t <<< 1 = 0#16 := by cases t <;> decide
  have h2 : (top t).msb = t := by cases t <;> decide
  rw [h1, h2]
  cases a.msb <;> cases t <;> simp
theorem S_lin (a b : BitVec 16) : S (a ^^^ b) = S a ^^^ S b := by
  unfold S
  rw [BitVec.shiftLeft_xor_distrib, BitVec.msb_xor]
  have e : ∀ x y p : BitVec 16, (x ^^^ p) ^^^ (y ^^^ p) = x ^^^ y := fun x y p => by
    have : (x ^^^ p) ^^^ (y ^^^ p) = (x ^^^ y) ^^^ (p ^^^ p) := by ac_rfl
    rw [this, BitVec.xor_self, BitVec.xor_zero]
  cases a.msb <;> cases b.msb <;> simp
  · ac_rfl
  · ac_rfl
  · rw [e]
def R8 (a : BitVec 16) (x : BitVec 8) : BitVec 16 :=
  R (R (R (R (R (R (R (R a (x.getLsbD 7)) (x.getLsbD 6)) (x.getLsbD 5)) (x.getLsbD 4)) (x.getLsbD 3)) (x.getLsbD 2)) (x.getLsbD 1)) (x.getLsbD 0)
def S8 (a : BitVec 16) : BitVec 16 := S (S (S (S (S (S (S (S a)))))))
theorem S8_lin (a b : BitVec 16) : S8 (a ^^^ b) = S8 a ^^^ S8 b := by unfold S8; simp only [S_lin]
theorem R8_split (a : BitVec 16) (x : BitVec 8) : R8 a x = S8 a ^^^ R8 0#16 x := by
  unfold R8 S8
  simp only [R_S, S_lin]
  simp only [BitVec.xor_assoc]
  simp [show S 0#16 = 0#16 from by decide]
def tab (y : BitVec 8) : BitVec 16 := S8 ((y.setWidth 16) <<< 8)
theorem tab_xor (x y : BitVec 8) : tab (x ^^^ y) = tab x ^^^ tab y := by
  unfold tab
  rw [← S8_lin, ← BitVec.shiftLeft_xor_distrib, BitVec.setWidth_xor]
theorem low_all : ∀ n : Nat, n < 256 → S8 (BitVec.ofNat 16 n) = BitVec.ofNat 16 n <<< 8 := by decide +kernel
theorem R80_all : ∀ n : Nat, n < 256 → R8 0#16 (BitVec.ofNat 8 n) = tab (BitVec.ofNat 8 n) := by decide +kernel
theorem R80 (x : BitVec 8) : R8 0#16 x = tab x := by
  have := R80_all x.toNat x.isLt
  rwa [BitVec.ofNat_toNat, BitVec.setWidth_eq] at this
theorem low (a : BitVec 16) : S8 (a &&& 255#16) = a <<< 8 := by
  have h : (a &&& 255#16).toNat < 256 := by
    rw [BitVec.toNat_and]; exact Nat.and_lt_two_pow _ (n := 8) (by decide)
  have := low_all _ h
  rw [BitVec.ofNat_toNat, BitVec.setWidth_eq] at this
  rw [this]
  apply BitVec.eq_of_toNat_eq
  simp only [BitVec.toNat_shiftLeft, BitVec.toNat_and, BitVec.toNat_ofNat]
  rw [show 255 % 2 ^ 16 = 2 ^ 8 - 1 by decide, Nat.and_two_pow_sub_one_eq_mod]
  simp only [Nat.shiftLeft_eq]
  omega
theorem high (a : BitVec 16) : S8 ((a &&& 65280#16)) = tab ((a >>> 8).setWidth 8) := by
  unfold tab
  congr 1
  apply BitVec.eq_of_toNat_eq
  simp only [BitVec.toNat_shiftLeft, BitVec.toNat_and, BitVec.toNat_ofNat, BitVec.toNat_setWidth, BitVec.toNat_ushiftRight, Nat.shiftRight_eq_div_pow, Nat.shiftLeft_eq]
  have h := a.isLt
  have h2 : a.toNat &&& 65280 % 2 ^ 16 = a.toNat / 256 * 256 := by
    have h3 : a.toNat &&& (65280 % 2 ^ 16) = (a.toNat >>> 8 <<< 8) &&& (2 ^ 16 - 1) := by
      apply Nat.eq_of_testBit_eq
      intro i
      simp only [Nat.testBit_and, Nat.testBit_shiftLeft, Nat.testBit_shiftRight, Nat.testBit_two_pow_sub_one]
      by_cases hi : i < 16
      · have : ∀ i, i < 16 → (65280 % 2 ^ 16).testBit i = decide (i ≥ 8) := by decide
        rw [this i hi]
        by_cases h8 : i ≥ 8 <;> simp [h8, hi]
      · have e := Nat.testBit_lt_two_pow (x := a.toNat) (i := i) (Nat.lt_of_lt_of_le h (Nat.pow_le_pow_right (by decide) (by omega)))
        simp [e, hi]
    rw [h3, Nat.and_two_pow_sub_one_eq_mod, Nat.shiftLeft_eq, Nat.shiftRight_eq_div_pow]
    omega
  rw [h2]
  omega
theorem split16 (a : BitVec 16) : a = (a &&& 65280#16) ^^^ (a &&& 255#16) := by
  ext i hi
  simp only [BitVec.getElem_xor, BitVec.getElem_and]
  have : ∀ i (h : i < 16), ((65280#16)[i] ^^ (255#16)[i]) = true := by decide
  have := this i hi
  revert this
  cases a[i] <;> cases (65280#16)[i] <;> cases (255#16)[i] <;> simp
/-- One byte of the table's way is eight bits of the other. -/
theorem byte (a : BitVec 16) (x : BitVec 8) : R8 a x = tab ((a >>> 8).setWidth 8 ^^^ x) ^^^ (a <<< 8) := by
  rw [R8_split, R80, tab_xor]
  have : S8 a = tab ((a >>> 8).setWidth 8) ^^^ a <<< 8 := by
    conv => lhs; rw [split16 a]
    rw [S8_lin, high, low]
  rw [this]
  ac_rfl
def tabI : List Int := [0, 4129, 8258, 12387, 16516, 20645, 24774, 28903, 33032, 37161, 41290, 45419, 49548, 53677, 57806, 61935, 4657, 528, 12915, 8786, 21173, 17044, 29431, 25302, 37689, 33560, 45947, 41818, 54205, 50076, 62463, 58334, 9314, 13379, 1056, 5121, 25830, 29895, 17572, 21637, 42346, 46411, 34088, 38153, 58862, 62927, 50604, 54669, 13907, 9842, 5649, 1584, 30423, 26358, 22165, 18100, 46939, 42874, 38681, 34616, 63455, 59390, 55197, 51132, 18628, 22757, 26758, 30887, 2112, 6241, 10242, 14371, 51660, 55789, 59790, 63919, 35144, 39273, 43274, 47403, 23285, 19156, 31415, 27286, 6769, 2640, 14899, 10770, 56317, 52188, 64447, 60318, 39801, 35672, 47931, 43802, 27814, 31879, 19684, 23749, 11298, 15363, 3168, 7233, 60846, 64911, 52716, 56781, 44330, 48395, 36200, 40265, 32407, 28342, 24277, 20212, 15891, 11826, 7761, 3696, 65439, 61374, 57309, 53244, 48923, 44858, 40793, 36728, 37256, 33193, 45514, 41451, 53516, 49453, 61774, 57711, 4224, 161, 12482, 8419, 20484, 16421, 28742, 24679, 33721, 37784, 41979, 46042, 49981, 54044, 58239, 62302, 689, 4752, 8947, 13010, 16949, 21012, 25207, 29270, 46570, 42443, 38312, 34185, 62830, 58703, 54572, 50445, 13538, 9411, 5280, 1153, 29798, 25671, 21540, 17413, 42971, 47098, 34713, 38840, 59231, 63358, 50973, 55100, 9939, 14066, 1681, 5808, 26199, 30326, 17941, 22068, 55628, 51565, 63758, 59695, 39368, 35305, 47498, 43435, 22596, 18533, 30726, 26663, 6336, 2273, 14466, 10403, 52093, 56156, 60223, 64286, 35833, 39896, 43963, 48026, 19061, 23124, 27191, 31254, 2801, 6864, 10931, 14994, 64814, 60687, 56684, 52557, 48554, 44427, 40424, 36297, 31782, 27655, 23652, 19525, 15522, 11395, 7392, 3265, 61215, 65342, 53085, 57212, 44955, 49082, 36825, 40952, 28183, 32310, 20053, 24180, 11923, 16050, 3793, 7920]

theorem tab_all : ∀ n : Nat, n < 256 → tabI.getD n 0 = ((tab (BitVec.ofNat 8 n)).toNat : Int) := by decide +kernel
theorem tab_at (y : BitVec 8) : tabI[y.toNat]? = some ((tab y).toNat : Int) := by
  have h := tab_all y.toNat y.isLt
  rw [BitVec.ofNat_toNat, BitVec.setWidth_eq] at h
  have hl : tabI.length = 256 := by decide +kernel
  have := y.isLt
  rw [← h, List.getD_eq_getElem?_getD, List.getElem?_eq_getElem (by omega)]
  rfl
theorem of16 (A : BitVec 16) : BitVec.ofInt IntKind.u16.bits (A.toNat : Int) = A := by
  show BitVec.ofInt 16 (A.toNat : Int) = A
  rw [BitVec.ofInt_natCast, BitVec.ofNat_toNat, BitVec.setWidth_eq]
theorem of8 (A : BitVec 8) : BitVec.ofInt IntKind.u8.bits (A.toNat : Int) = A := by
  show BitVec.ofInt 8 (A.toNat : Int) = A
  rw [BitVec.ofInt_natCast, BitVec.ofNat_toNat, BitVec.setWidth_eq]
theorem w16 (A : BitVec 16) : IntKind.u16.wrap (A.toNat : Int) = A.toNat := by have := A.isLt; rw [IntKind.wrap_u16]; omega
theorem w8 (A : BitVec 8) : IntKind.u8.wrap (A.toNat : Int) = A.toNat := by have := A.isLt; rw [IntKind.wrap_u8]; omega
theorem s_shr (A : BitVec 16) : (A.toNat : Int).fdiv (2 ^ (min (8 : Int).toNat IntKind.u16.bits)) = ((A >>> 8).toNat : Int) := by
  rw [show min (8 : Int).toNat IntKind.u16.bits = 8 by decide, Int.fdiv_eq_ediv_of_nonneg _ (by decide), BitVec.toNat_ushiftRight, Nat.shiftRight_eq_div_pow]
  omega
theorem s_w8 (A : BitVec 16) : IntKind.u8.wrap (A.toNat : Int) = ((A.setWidth 8).toNat : Int) := by
  rw [IntKind.wrap_u8, BitVec.toNat_setWidth]; omega
theorem s_x8 (A B : BitVec 8) : IntKind.u8.wrap (BitVec.ofInt IntKind.u8.bits (A.toNat : Int) ^^^ BitVec.ofInt IntKind.u8.bits (B.toNat : Int)).toNat = ((A ^^^ B).toNat : Int) := by
  rw [of8, of8]; exact w8 _
theorem s_x16 (A B : BitVec 16) : IntKind.u16.wrap (BitVec.ofInt IntKind.u16.bits (A.toNat : Int) ^^^ BitVec.ofInt IntKind.u16.bits (B.toNat : Int)).toNat = ((A ^^^ B).toNat : Int) := by
  rw [of16, of16]; exact w16 _
theorem s_shl (A : BitVec 16) : IntKind.u16.wrap ((A.toNat : Int) * 2 ^ (min (8 : Int).toNat IntKind.u16.bits)) = ((A <<< 8).toNat : Int) := by
  rw [show min (8 : Int).toNat IntKind.u16.bits = 8 by decide, IntKind.wrap_u16, BitVec.toNat_shiftLeft, Nat.shiftLeft_eq]
  omega
def crcS (A : BitVec 16) (x : BitVec 8) : BitVec 16 := (A <<< 8) ^^^ tab ((A >>> 8).setWidth 8 ^^^ x)
def crc (l : List Int) : BitVec 16 := l.foldl (fun A x => crcS A (BitVec.ofInt 8 x)) 0#16
theorem crcS_R8 (A : BitVec 16) (x : BitVec 8) : R8 A x = crcS A x := by rw [byte]; unfold crcS; ac_rfl
theorem crc_snoc (l : List Int) (i : Nat) (x : Int) (h : l[i]? = some x) : crc (l.take (i + 1)) = crcS (crc (l.take i)) (BitVec.ofInt 8 x) := by
  unfold crc
  obtain ⟨h1, h2⟩ := List.getElem?_eq_some_iff.1 h
  rw [List.take_succ_eq_append_getElem h1, List.foldl_append, h2]
  rfl
theorem byte_of {x : Int} (h : 0 ≤ x ∧ x ≤ 255) : ((BitVec.ofInt 8 x).toNat : Int) = x := by
  obtain ⟨a, rfl⟩ := Int.eq_ofNat_of_zero_le h.1
  rw [BitVec.ofInt_natCast, BitVec.toNat_ofNat]
  omega
/-! ### the other way -/
theorem b_w (A : BitVec 16) : IntKind.u16.wrap ((A.toNat : Int) * 2) = ((A <<< 1).toNat : Int) := by
  rw [IntKind.wrap_u16, BitVec.toNat_shiftLeft, Nat.shiftLeft_eq]; omega
theorem b_x (A : BitVec 16) : Go.bits .xor .u16 ((A <<< 1).toNat : Int) 4129 = (((A <<< 1) ^^^ 4129#16).toNat : Int) := by
  have := s_x16 (A <<< 1) 4129#16
  exact this
theorem b_top (A : BitVec 16) : Go.bits .and .u16 ((A.toNat : Int) / 32768) 1 = if A.msb then 1 else 0 := by
  rw [BitVec.msb_eq_decide]
  by_cases h : 2 ^ (16 - 1) ≤ A.toNat
  · have := A.isLt
    have e : (A.toNat : Int) / 32768 = 1 := by omega
    rw [e]; simp [h]; decide
  · have e : (A.toNat : Int) / 32768 = 0 := by omega
    rw [e]; simp [h]; decide
theorem b_bit (X : BitVec 8) (j : Nat) (hj : j < 8) : IntKind.u16.wrap (Go.bits .and .u8 (shr .u8 (X.toNat : Int) (j : Int)) 1) = if X.getLsbD j then 1 else 0 := by
  have : ∀ n : Nat, n < 256 → ∀ j : Nat, j < 8 → IntKind.u16.wrap (Go.bits .and .u8 (shr .u8 (n : Int) (j : Int)) 1) = if (BitVec.ofNat 8 n).getLsbD j then 1 else 0 := by decide +kernel
  have := this X.toNat X.isLt j hj
  rwa [BitVec.ofNat_toNat, BitVec.setWidth_eq] at this
theorem l1_round (A : BitVec 16) (X : BitVec 8) (j : Nat) (hj : j < 8) (k : Nat) (l : List Int) (n i : Int) :
    spec_CRC16.l1 (k + 1) (A.toNat : Int) (X.toNat : Int) (j : Int) l n i = spec_CRC16.l1 k ((R A (X.getLsbD j)).toNat : Int) (X.toNat : Int) ((j : Int) - 1) l n i := by
  rw [spec_CRC16.l1, if_pos (by omega), if_pos (by omega), b_top, b_bit X j hj, b_w, b_x, w64 (by omega)]
  unfold R
  cases A.msb <;> cases X.getLsbD j <;> simp
theorem l1_end (k : Nat) (a x : Int) (l : List Int) (n i : Int) : spec_CRC16.l1 (k + 1) a x (-1) l n i = spec_CRC16.l0 k a l n (wrap64 (i + 1)) := by
  rw [spec_CRC16.l1, if_neg (by omega)]
theorem l1_all (A : BitVec 16) (X : BitVec 8) (k : Nat) (l : List Int) (n i : Int) : spec_CRC16.l1 (k + 9) (A.toNat : Int) (X.toNat : Int) 7 l n i = spec_CRC16.l0 k ((crcS A X).toNat : Int) l n (wrap64 (i + 1)) := by
  rw [← crcS_R8]
  unfold R8
  have h := fun (B : BitVec 16) (j : Nat) (hj : j < 8) (k : Nat) => l1_round B X j hj k l n i
  have h7 := h A 7 (by omega) (k + 8)
  have h6 := fun B => h B 6 (by omega) (k + 7)
  have h5 := fun B => h B 5 (by omega) (k + 6)
  have h4 := fun B => h B 4 (by omega) (k + 5)
  have h3 := fun B => h B 3 (by omega) (k + 4)
  have h2 := fun B => h B 2 (by omega) (k + 3)
  have h1 := fun B => h B 1 (by omega) (k + 2)
  have h0 := fun B => h B 0 (by omega) (k + 1)
  simp only [show ((7 : Nat) : Int) = 7 from rfl, show ((6 : Nat) : Int) = 6 from rfl, show ((5 : Nat) : Int) = 5 from rfl, show ((4 : Nat) : Int) = 4 from rfl, show ((3 : Nat) : Int) = 3 from rfl, show ((2 : Nat) : Int) = 2 from rfl, show ((1 : Nat) : Int) = 1 from rfl, show ((0 : Nat) : Int) = 0 from rfl, Int.reduceSub] at h7 h6 h5 h4 h3 h2 h1 h0
  rw [h7, h6, h5, h4, h3, h2, h1, h0, l1_end]
theorem l0_all (l : List Int) (hl : ∀ x ∈ l, 0 ≤ x ∧ x ≤ 255) (n : Nat) (hn : l.length = n) (hs : n ≤ 1000000) : ∀ d i k : Nat, i ≤ n → n - i = d → 10 * d < k →
    spec_CRC16.l0 k ((crc (l.take i)).toNat : Int) l n i = some ((crc l).toNat : Int) := by
  intro d
  induction d with
  | zero =>
    intro i k hi hd hk
    obtain ⟨k, rfl⟩ : ∃ m, k = m + 1 := ⟨k - 1, by omega⟩
    rw [spec_CRC16.l0, if_neg (by omega), List.take_of_length_le (by omega)]
  | succ d ih =>
    intro i k hi hd hk
    obtain ⟨k, rfl⟩ : ∃ m, k = m + 10 := ⟨k - 10, by omega⟩
    have hg : l[i]? = some (l.getD i 0) := by rw [List.getD_eq_getElem?_getD, List.getElem?_eq_getElem (by omega)]; rfl
    have hr : rd l (i : Int) = ((BitVec.ofInt 8 (l.getD i 0)).toNat : Int) := by
      rw [byte_of (hl _ (List.mem_of_getElem? hg))]; rfl
    rw [spec_CRC16.l0, if_pos (by omega), if_pos (by omega), if_pos (by omega), hr, l1_all, w64 (by omega), ← crc_snoc l i _ hg]
    exact ih (i + 1) k (by omega) (by omega) (by omega)
theorem crc_spec (l : List Int) (hl : ∀ x ∈ l, 0 ≤ x ∧ x ≤ 255) (hs : l.length ≤ 1000000) : spec_CRC16.f (10 * l.length + 1) l = some ((crc l).toNat : Int) := by
  have := l0_all l hl l.length rfl hs l.length 0 (10 * l.length + 1) (by omega) (by omega) (by omega)
  exact this
def somekey : ByteArray := ⟨#[115, 111, 109, 101, 107, 101, 121]⟩
theorem key_val : ((crc (tagOf (ints somekey))).toNat : Int) % 16384 = 11058 := by decide +kernel
end Go.Proofs.Ytcjdadfiedoflaa.slotp
