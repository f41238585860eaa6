/- Words of this seat's own: whole numbers as bit vectors; rows of them; a callee that writes into its caller's blocks; copies. -/
import Derived.Test.YtnmelglnkefjfaaDoorSc
import Derived.Laws.BitsAllLaws
namespace Go.Proofs.HHW
open Go.RowKit Go.Proofs.YtnmelglnkefjfaaDoorW.PrintWords
set_option linter.unusedVariables false
set_option linter.unusedSimpArgs false
/-! ### bit vectors -/
theorem bw8 (x : BitVec 8) : IntKind.u8.wrap (x.toNat : Int) = (x.toNat : Int) := by rw [IntKind.wrap_u8]; omega
theorem of8 (x : BitVec 8) : BitVec.ofInt IntKind.u8.bits (x.toNat : Int) = x := by
  show BitVec.ofInt 8 (x.toNat : Int) = x
  rw [BitVec.ofInt_natCast, BitVec.ofNat_toNat]; exact BitVec.setWidth_eq x
theorem add8 (x y : BitVec 8) : IntKind.u8.wrap ((x.toNat : Int) + (y.toNat : Int)) = ((x + y).toNat : Int) := by rw [IntKind.wrap_u8, BitVec.toNat_add]; omega
theorem sub8 (x y : BitVec 8) : IntKind.u8.wrap ((x.toNat : Int) - (y.toNat : Int)) = ((x - y).toNat : Int) := by rw [IntKind.wrap_u8, BitVec.toNat_sub]; omega
theorem mul8 (x y : BitVec 8) : IntKind.u8.wrap ((x.toNat : Int) * (y.toNat : Int)) = ((x * y).toNat : Int) := by rw [IntKind.wrap_u8, BitVec.toNat_mul, Int.natCast_emod, Int.natCast_mul]; rfl
theorem and8 (x y : BitVec 8) : IntKind.u8.wrap (BitVec.ofInt IntKind.u8.bits (x.toNat : Int) &&& BitVec.ofInt IntKind.u8.bits (y.toNat : Int)).toNat = ((x &&& y).toNat : Int) := by rw [of8, of8]; exact bw8 _
theorem or8 (x y : BitVec 8) : IntKind.u8.wrap (BitVec.ofInt IntKind.u8.bits (x.toNat : Int) ||| BitVec.ofInt IntKind.u8.bits (y.toNat : Int)).toNat = ((x ||| y).toNat : Int) := by rw [of8, of8]; exact bw8 _
theorem xor8 (x y : BitVec 8) : IntKind.u8.wrap (BitVec.ofInt IntKind.u8.bits (x.toNat : Int) ^^^ BitVec.ofInt IntKind.u8.bits (y.toNat : Int)).toNat = ((x ^^^ y).toNat : Int) := by rw [of8, of8]; exact bw8 _
theorem andnot8 (x y : BitVec 8) : IntKind.u8.wrap (BitVec.ofInt IntKind.u8.bits (x.toNat : Int) &&& ~~~ BitVec.ofInt IntKind.u8.bits (y.toNat : Int)).toNat = ((x &&& ~~~ y).toNat : Int) := by rw [of8, of8]; exact bw8 _
theorem shl8 (x : BitVec 8) {i : Int} {n : Nat} (hi : i = (n : Int)) (hn : n < 8) : IntKind.u8.wrap ((x.toNat : Int) * 2 ^ (min i.toNat IntKind.u8.bits)) = ((x <<< n).toNat : Int) := by
  subst hi
  rw [show min (n : Int).toNat IntKind.u8.bits = n from Nat.min_eq_left (Nat.le_of_lt hn), IntKind.wrap_u8, BitVec.toNat_shiftLeft, Nat.shiftLeft_eq]
  have : ((x.toNat : Int) * 2 ^ n) = ((x.toNat * 2 ^ n : Nat) : Int) := by rw [Int.natCast_mul, Int.natCast_pow]; rfl
  rw [this]; exact (Int.natCast_emod _ _).symm
theorem shr8 (x : BitVec 8) {i : Int} {n : Nat} (hi : i = (n : Int)) (hn : n < 8) : (x.toNat : Int).fdiv (2 ^ (min i.toNat IntKind.u8.bits)) = ((x >>> n).toNat : Int) := by
  subst hi
  rw [show min (n : Int).toNat IntKind.u8.bits = n from Nat.min_eq_left (Nat.le_of_lt hn), BitVec.toNat_ushiftRight, Nat.shiftRight_eq_div_pow, Int.fdiv_eq_ediv_of_nonneg _ (Int.le_of_lt (Int.pow_pos (by decide)))]
  rw [Int.natCast_ediv, Int.natCast_pow]; rfl
theorem not8 {P : Program} (x : BitVec 8) (w : World) : (Op.unary .xor (.int .u8 (x.toNat : Int))).run P w = .ok (.int .u8 ((~~~ x).toNat : Int)) w := by
  have h : IntKind.u8.wrap (BitVec.ofInt IntKind.u8.bits ((BitVec.allOnes 8).toNat : Int) ^^^ BitVec.ofInt IntKind.u8.bits (x.toNat : Int)).toNat = ((~~~ x).toNat : Int) := by
    rw [xor8, BitVec.allOnes_xor]
  show (Op.intBits .xor .u8 IntKind.u8.max (x.toNat : Int)).run P w = _
  rw [show IntKind.u8.max = ((BitVec.allOnes 8).toNat : Int) by decide]
  have h2 : (Op.intBits .xor .u8 ((BitVec.allOnes 8).toNat : Int) (x.toNat : Int)).run P w = .ok (.int .u8 (IntKind.u8.wrap (BitVec.ofInt IntKind.u8.bits ((BitVec.allOnes 8).toNat : Int) ^^^ BitVec.ofInt IntKind.u8.bits (x.toNat : Int)).toNat)) w := rfl
  rw [h2, h]
theorem bw16 (x : BitVec 16) : IntKind.u16.wrap (x.toNat : Int) = (x.toNat : Int) := by rw [IntKind.wrap_u16]; omega
theorem of16 (x : BitVec 16) : BitVec.ofInt IntKind.u16.bits (x.toNat : Int) = x := by
  show BitVec.ofInt 16 (x.toNat : Int) = x
  rw [BitVec.ofInt_natCast, BitVec.ofNat_toNat]; exact BitVec.setWidth_eq x
theorem add16 (x y : BitVec 16) : IntKind.u16.wrap ((x.toNat : Int) + (y.toNat : Int)) = ((x + y).toNat : Int) := by rw [IntKind.wrap_u16, BitVec.toNat_add]; omega
theorem sub16 (x y : BitVec 16) : IntKind.u16.wrap ((x.toNat : Int) - (y.toNat : Int)) = ((x - y).toNat : Int) := by rw [IntKind.wrap_u16, BitVec.toNat_sub]; omega
theorem mul16 (x y : BitVec 16) : IntKind.u16.wrap ((x.toNat : Int) * (y.toNat : Int)) = ((x * y).toNat : Int) := by rw [IntKind.wrap_u16, BitVec.toNat_mul, Int.natCast_emod, Int.natCast_mul]; rfl
theorem and16 (x y : BitVec 16) : IntKind.u16.wrap (BitVec.ofInt IntKind.u16.bits (x.toNat : Int) &&& BitVec.ofInt IntKind.u16.bits (y.toNat : Int)).toNat = ((x &&& y).toNat : Int) := by rw [of16, of16]; exact bw16 _
theorem or16 (x y : BitVec 16) : IntKind.u16.wrap (BitVec.ofInt IntKind.u16.bits (x.toNat : Int) ||| BitVec.ofInt IntKind.u16.bits (y.toNat : Int)).toNat = ((x ||| y).toNat : Int) := by rw [of16, of16]; exact bw16 _
theorem xor16 (x y : BitVec 16) : IntKind.u16.wrap (BitVec.ofInt IntKind.u16.bits (x.toNat : Int) ^^^ BitVec.ofInt IntKind.u16.bits (y.toNat : Int)).toNat = ((x ^^^ y).toNat : Int) := by rw [of16, of16]; exact bw16 _
theorem andnot16 (x y : BitVec 16) : IntKind.u16.wrap (BitVec.ofInt IntKind.u16.bits (x.toNat : Int) &&& ~~~ BitVec.ofInt IntKind.u16.bits (y.toNat : Int)).toNat = ((x &&& ~~~ y).toNat : Int) := by rw [of16, of16]; exact bw16 _
theorem shl16 (x : BitVec 16) {i : Int} {n : Nat} (hi : i = (n : Int)) (hn : n < 16) : IntKind.u16.wrap ((x.toNat : Int) * 2 ^ (min i.toNat IntKind.u16.bits)) = ((x <<< n).toNat : Int) := by
  subst hi
  rw [show min (n : Int).toNat IntKind.u16.bits = n from Nat.min_eq_left (Nat.le_of_lt hn), IntKind.wrap_u16, BitVec.toNat_shiftLeft, Nat.shiftLeft_eq]
  have : ((x.toNat : Int) * 2 ^ n) = ((x.toNat * 2 ^ n : Nat) : Int) := by rw [Int.natCast_mul, Int.natCast_pow]; rfl
  rw [this]; exact (Int.natCast_emod _ _).symm
theorem shr16 (x : BitVec 16) {i : Int} {n : Nat} (hi : i = (n : Int)) (hn : n < 16) : (x.toNat : Int).fdiv (2 ^ (min i.toNat IntKind.u16.bits)) = ((x >>> n).toNat : Int) := by
  subst hi
  rw [show min (n : Int).toNat IntKind.u16.bits = n from Nat.min_eq_left (Nat.le_of_lt hn), BitVec.toNat_ushiftRight, Nat.shiftRight_eq_div_pow, Int.fdiv_eq_ediv_of_nonneg _ (Int.le_of_lt (Int.pow_pos (by decide)))]
  rw [Int.natCast_ediv, Int.natCast_pow]; rfl
theorem not16 {P : Program} (x : BitVec 16) (w : World) : (Op.unary .xor (.int .u16 (x.toNat : Int))).run P w = .ok (.int .u16 ((~~~ x).toNat : Int)) w := by
  have h : IntKind.u16.wrap (BitVec.ofInt IntKind.u16.bits ((BitVec.allOnes 16).toNat : Int) ^^^ BitVec.ofInt IntKind.u16.bits (x.toNat : Int)).toNat = ((~~~ x).toNat : Int) := by
    rw [xor16, BitVec.allOnes_xor]
  show (Op.intBits .xor .u16 IntKind.u16.max (x.toNat : Int)).run P w = _
  rw [show IntKind.u16.max = ((BitVec.allOnes 16).toNat : Int) by decide]
  have h2 : (Op.intBits .xor .u16 ((BitVec.allOnes 16).toNat : Int) (x.toNat : Int)).run P w = .ok (.int .u16 (IntKind.u16.wrap (BitVec.ofInt IntKind.u16.bits ((BitVec.allOnes 16).toNat : Int) ^^^ BitVec.ofInt IntKind.u16.bits (x.toNat : Int)).toNat)) w := rfl
  rw [h2, h]
theorem bw32 (x : BitVec 32) : IntKind.u32.wrap (x.toNat : Int) = (x.toNat : Int) := by rw [IntKind.wrap_u32]; omega
theorem of32 (x : BitVec 32) : BitVec.ofInt IntKind.u32.bits (x.toNat : Int) = x := by
  show BitVec.ofInt 32 (x.toNat : Int) = x
  rw [BitVec.ofInt_natCast, BitVec.ofNat_toNat]; exact BitVec.setWidth_eq x
theorem add32 (x y : BitVec 32) : IntKind.u32.wrap ((x.toNat : Int) + (y.toNat : Int)) = ((x + y).toNat : Int) := by rw [IntKind.wrap_u32, BitVec.toNat_add]; omega
theorem sub32 (x y : BitVec 32) : IntKind.u32.wrap ((x.toNat : Int) - (y.toNat : Int)) = ((x - y).toNat : Int) := by rw [IntKind.wrap_u32, BitVec.toNat_sub]; omega
theorem mul32 (x y : BitVec 32) : IntKind.u32.wrap ((x.toNat : Int) * (y.toNat : Int)) = ((x * y).toNat : Int) := by rw [IntKind.wrap_u32, BitVec.toNat_mul, Int.natCast_emod, Int.natCast_mul]; rfl
theorem and32 (x y : BitVec 32) : IntKind.u32.wrap (BitVec.ofInt IntKind.u32.bits (x.toNat : Int) &&& BitVec.ofInt IntKind.u32.bits (y.toNat : Int)).toNat = ((x &&& y).toNat : Int) := by rw [of32, of32]; exact bw32 _
theorem or32 (x y : BitVec 32) : IntKind.u32.wrap (BitVec.ofInt IntKind.u32.bits (x.toNat : Int) ||| BitVec.ofInt IntKind.u32.bits (y.toNat : Int)).toNat = ((x ||| y).toNat : Int) := by rw [of32, of32]; exact bw32 _
theorem xor32 (x y : BitVec 32) : IntKind.u32.wrap (BitVec.ofInt IntKind.u32.bits (x.toNat : Int) ^^^ BitVec.ofInt IntKind.u32.bits (y.toNat : Int)).toNat = ((x ^^^ y).toNat : Int) := by rw [of32, of32]; exact bw32 _
theorem andnot32 (x y : BitVec 32) : IntKind.u32.wrap (BitVec.ofInt IntKind.u32.bits (x.toNat : Int) &&& ~~~ BitVec.ofInt IntKind.u32.bits (y.toNat : Int)).toNat = ((x &&& ~~~ y).toNat : Int) := by rw [of32, of32]; exact bw32 _
theorem shl32 (x : BitVec 32) {i : Int} {n : Nat} (hi : i = (n : Int)) (hn : n < 32) : IntKind.u32.wrap ((x.toNat : Int) * 2 ^ (min i.toNat IntKind.u32.bits)) = ((x <<< n).toNat : Int) := by
  subst hi
  rw [show min (n : Int).toNat IntKind.u32.bits = n from Nat.min_eq_left (Nat.le_of_lt hn), IntKind.wrap_u32, BitVec.toNat_shiftLeft, Nat.shiftLeft_eq]
  have : ((x.toNat : Int) * 2 ^ n) = ((x.toNat * 2 ^ n : Nat) : Int) := by rw [Int.natCast_mul, Int.natCast_pow]; rfl
  rw [this]; exact (Int.natCast_emod _ _).symm
theorem shr32 (x : BitVec 32) {i : Int} {n : Nat} (hi : i = (n : Int)) (hn : n < 32) : (x.toNat : Int).fdiv (2 ^ (min i.toNat IntKind.u32.bits)) = ((x >>> n).toNat : Int) := by
  subst hi
  rw [show min (n : Int).toNat IntKind.u32.bits = n from Nat.min_eq_left (Nat.le_of_lt hn), BitVec.toNat_ushiftRight, Nat.shiftRight_eq_div_pow, Int.fdiv_eq_ediv_of_nonneg _ (Int.le_of_lt (Int.pow_pos (by decide)))]
  rw [Int.natCast_ediv, Int.natCast_pow]; rfl
theorem not32 {P : Program} (x : BitVec 32) (w : World) : (Op.unary .xor (.int .u32 (x.toNat : Int))).run P w = .ok (.int .u32 ((~~~ x).toNat : Int)) w := by
  have h : IntKind.u32.wrap (BitVec.ofInt IntKind.u32.bits ((BitVec.allOnes 32).toNat : Int) ^^^ BitVec.ofInt IntKind.u32.bits (x.toNat : Int)).toNat = ((~~~ x).toNat : Int) := by
    rw [xor32, BitVec.allOnes_xor]
  show (Op.intBits .xor .u32 IntKind.u32.max (x.toNat : Int)).run P w = _
  rw [show IntKind.u32.max = ((BitVec.allOnes 32).toNat : Int) by decide]
  have h2 : (Op.intBits .xor .u32 ((BitVec.allOnes 32).toNat : Int) (x.toNat : Int)).run P w = .ok (.int .u32 (IntKind.u32.wrap (BitVec.ofInt IntKind.u32.bits ((BitVec.allOnes 32).toNat : Int) ^^^ BitVec.ofInt IntKind.u32.bits (x.toNat : Int)).toNat)) w := rfl
  rw [h2, h]
theorem bw64 (x : BitVec 64) : IntKind.u64.wrap (x.toNat : Int) = (x.toNat : Int) := by rw [IntKind.wrap_u64]; omega
theorem of64 (x : BitVec 64) : BitVec.ofInt IntKind.u64.bits (x.toNat : Int) = x := by
  show BitVec.ofInt 64 (x.toNat : Int) = x
  rw [BitVec.ofInt_natCast, BitVec.ofNat_toNat]; exact BitVec.setWidth_eq x
theorem add64 (x y : BitVec 64) : IntKind.u64.wrap ((x.toNat : Int) + (y.toNat : Int)) = ((x + y).toNat : Int) := by rw [IntKind.wrap_u64, BitVec.toNat_add]; omega
theorem sub64 (x y : BitVec 64) : IntKind.u64.wrap ((x.toNat : Int) - (y.toNat : Int)) = ((x - y).toNat : Int) := by rw [IntKind.wrap_u64, BitVec.toNat_sub]; omega
theorem mul64 (x y : BitVec 64) : IntKind.u64.wrap ((x.toNat : Int) * (y.toNat : Int)) = ((x * y).toNat : Int) := by rw [IntKind.wrap_u64, BitVec.toNat_mul, Int.natCast_emod, Int.natCast_mul]; rfl
theorem and64 (x y : BitVec 64) : IntKind.u64.wrap (BitVec.ofInt IntKind.u64.bits (x.toNat : Int) &&& BitVec.ofInt IntKind.u64.bits (y.toNat : Int)).toNat = ((x &&& y).toNat : Int) := by rw [of64, of64]; exact bw64 _
theorem or64 (x y : BitVec 64) : IntKind.u64.wrap (BitVec.ofInt IntKind.u64.bits (x.toNat : Int) ||| BitVec.ofInt IntKind.u64.bits (y.toNat : Int)).toNat = ((x ||| y).toNat : Int) := by rw [of64, of64]; exact bw64 _
theorem xor64 (x y : BitVec 64) : IntKind.u64.wrap (BitVec.ofInt IntKind.u64.bits (x.toNat : Int) ^^^ BitVec.ofInt IntKind.u64.bits (y.toNat : Int)).toNat = ((x ^^^ y).toNat : Int) := by rw [of64, of64]; exact bw64 _
theorem andnot64 (x y : BitVec 64) : IntKind.u64.wrap (BitVec.ofInt IntKind.u64.bits (x.toNat : Int) &&& ~~~ BitVec.ofInt IntKind.u64.bits (y.toNat : Int)).toNat = ((x &&& ~~~ y).toNat : Int) := by rw [of64, of64]; exact bw64 _
theorem shl64 (x : BitVec 64) {i : Int} {n : Nat} (hi : i = (n : Int)) (hn : n < 64) : IntKind.u64.wrap ((x.toNat : Int) * 2 ^ (min i.toNat IntKind.u64.bits)) = ((x <<< n).toNat : Int) := by
  subst hi
  rw [show min (n : Int).toNat IntKind.u64.bits = n from Nat.min_eq_left (Nat.le_of_lt hn), IntKind.wrap_u64, BitVec.toNat_shiftLeft, Nat.shiftLeft_eq]
  have : ((x.toNat : Int) * 2 ^ n) = ((x.toNat * 2 ^ n : Nat) : Int) := by rw [Int.natCast_mul, Int.natCast_pow]; rfl
  rw [this]; exact (Int.natCast_emod _ _).symm
theorem shr64 (x : BitVec 64) {i : Int} {n : Nat} (hi : i = (n : Int)) (hn : n < 64) : (x.toNat : Int).fdiv (2 ^ (min i.toNat IntKind.u64.bits)) = ((x >>> n).toNat : Int) := by
  subst hi
  rw [show min (n : Int).toNat IntKind.u64.bits = n from Nat.min_eq_left (Nat.le_of_lt hn), BitVec.toNat_ushiftRight, Nat.shiftRight_eq_div_pow, Int.fdiv_eq_ediv_of_nonneg _ (Int.le_of_lt (Int.pow_pos (by decide)))]
  rw [Int.natCast_ediv, Int.natCast_pow]; rfl
theorem not64 {P : Program} (x : BitVec 64) (w : World) : (Op.unary .xor (.int .u64 (x.toNat : Int))).run P w = .ok (.int .u64 ((~~~ x).toNat : Int)) w := by
  have h : IntKind.u64.wrap (BitVec.ofInt IntKind.u64.bits ((BitVec.allOnes 64).toNat : Int) ^^^ BitVec.ofInt IntKind.u64.bits (x.toNat : Int)).toNat = ((~~~ x).toNat : Int) := by
    rw [xor64, BitVec.allOnes_xor]
  show (Op.intBits .xor .u64 IntKind.u64.max (x.toNat : Int)).run P w = _
  rw [show IntKind.u64.max = ((BitVec.allOnes 64).toNat : Int) by decide]
  have h2 : (Op.intBits .xor .u64 ((BitVec.allOnes 64).toNat : Int) (x.toNat : Int)).run P w = .ok (.int .u64 (IntKind.u64.wrap (BitVec.ofInt IntKind.u64.bits ((BitVec.allOnes 64).toNat : Int) ^^^ BitVec.ofInt IntKind.u64.bits (x.toNat : Int)).toNat)) w := rfl
  rw [h2, h]
theorem w8to16 (x : BitVec 8) : IntKind.u16.wrap (x.toNat : Int) = ((x.setWidth 16).toNat : Int) := by rw [IntKind.wrap_u16, BitVec.toNat_setWidth]; omega
theorem w8to32 (x : BitVec 8) : IntKind.u32.wrap (x.toNat : Int) = ((x.setWidth 32).toNat : Int) := by rw [IntKind.wrap_u32, BitVec.toNat_setWidth]; omega
theorem w8to64 (x : BitVec 8) : IntKind.u64.wrap (x.toNat : Int) = ((x.setWidth 64).toNat : Int) := by rw [IntKind.wrap_u64, BitVec.toNat_setWidth]; omega
theorem w16to8 (x : BitVec 16) : IntKind.u8.wrap (x.toNat : Int) = ((x.setWidth 8).toNat : Int) := by rw [IntKind.wrap_u8, BitVec.toNat_setWidth]; omega
theorem w16to32 (x : BitVec 16) : IntKind.u32.wrap (x.toNat : Int) = ((x.setWidth 32).toNat : Int) := by rw [IntKind.wrap_u32, BitVec.toNat_setWidth]; omega
theorem w16to64 (x : BitVec 16) : IntKind.u64.wrap (x.toNat : Int) = ((x.setWidth 64).toNat : Int) := by rw [IntKind.wrap_u64, BitVec.toNat_setWidth]; omega
theorem w32to8 (x : BitVec 32) : IntKind.u8.wrap (x.toNat : Int) = ((x.setWidth 8).toNat : Int) := by rw [IntKind.wrap_u8, BitVec.toNat_setWidth]; omega
theorem w32to16 (x : BitVec 32) : IntKind.u16.wrap (x.toNat : Int) = ((x.setWidth 16).toNat : Int) := by rw [IntKind.wrap_u16, BitVec.toNat_setWidth]; omega
theorem w32to64 (x : BitVec 32) : IntKind.u64.wrap (x.toNat : Int) = ((x.setWidth 64).toNat : Int) := by rw [IntKind.wrap_u64, BitVec.toNat_setWidth]; omega
theorem w64to8 (x : BitVec 64) : IntKind.u8.wrap (x.toNat : Int) = ((x.setWidth 8).toNat : Int) := by rw [IntKind.wrap_u8, BitVec.toNat_setWidth]; omega
theorem w64to16 (x : BitVec 64) : IntKind.u16.wrap (x.toNat : Int) = ((x.setWidth 16).toNat : Int) := by rw [IntKind.wrap_u16, BitVec.toNat_setWidth]; omega
theorem w64to32 (x : BitVec 64) : IntKind.u32.wrap (x.toNat : Int) = ((x.setWidth 32).toNat : Int) := by rw [IntKind.wrap_u32, BitVec.toNat_setWidth]; omega
/-! ### rows -/
section
variable {P : Program} {ops : Array Oper} {Q : Exit → Act → World → Prop} {o : Oper} {rest : List Oper} {a : Act} {n : Nat} {ds : List Deferred} {F : List (Nat × Value)} {B : Nat} {w0 w : World} {L : List (Nat × Obj)} {d : Nat}
def fv (f : Nat → Value) (n : Nat) : List Value := (List.range n).map f
theorem fv_len (f : Nat → Value) (n : Nat) : (fv f n).length = n := by simp [fv]
theorem fv_get (f : Nat → Value) {n i : Nat} (h : i < n) : (fv f n)[i]? = some (f i) := by simp [fv, h]
theorem fv_arr (f : Nat → Value) {n i : Nat} {j : Nat} (hj : j = i) (h : i < n) : (fv f n).toArray[j]? = some (f i) := by subst hj; simp [fv, h]
theorem fv_set (f : Nat → Value) {n i j : Nat} (v : Value) (hj : j = i) : (fv f n).toArray.setIfInBounds j v = (fv (fun k => if k = i then v else f k) n).toArray := by
  subst hj
  apply Array.ext_getElem?
  intro k
  by_cases hk : k < n
  · by_cases e : k = j
    · subst e; simp [Array.getElem?_setIfInBounds, fv, hk]
    · simp [Array.getElem?_setIfInBounds, fv, hk, e, Ne.symm e]
  · simp [Array.getElem?_setIfInBounds, fv_len, fv, hk]
theorem fv_ext {f g : Nat → Value} {n : Nat} (h : ∀ i, i < n → f i = g i) : fv f n = fv g n := by
  unfold fv
  exact List.map_congr_left fun i hi => h i (List.mem_range.1 hi)
theorem fv_one {f : Nat → Value} {n : Nat} (h : ∀ i, i < n → (f i).oneCell' = true) : ∀ v ∈ fv f n, v.oneCell' = true := fun v hv => by
  obtain ⟨i, hi, rfl⟩ := List.mem_map.1 hv
  exact h i (List.mem_range.1 hi)
/-- Row of words. -/
def w32 (f : Nat → BitVec 32) (i : Nat) : Value := .int .u32 ((f i).toNat : Int)
theorem w32_one (f : Nat → BitVec 32) (n : Nat) : ∀ v ∈ fv (w32 f) n, v.oneCell' = true := fv_one fun _ _ => rfl
def up {α : Type} (f : Nat → α) (i : Nat) (x : α) (k : Nat) : α := if k = i then x else f k
theorem w32_set (f : Nat → BitVec 32) {n i j : Nat} (x : BitVec 32) (hj : j = i) : (fv (w32 f) n).toArray.setIfInBounds j (.int .u32 (x.toNat : Int)) = (fv (w32 (up f i x)) n).toArray := by
  rw [fv_set _ _ hj]
  congr 1
  apply fv_ext
  intro k _
  unfold w32 up
  split <;> rfl
theorem w32_get (f : Nat → BitVec 32) {n i : Nat} {j : Nat} (hj : j = i) (h : i < n) : (fv (w32 f) n).toArray[j]? = some (.int .u32 ((f i).toNat : Int)) := fv_arr _ hj h
theorem ix_row {t e : TypeId} {k : IntKind} {i : Int} {cs : Array Value} {m : Nat} {v : Value} (hu : P.underlying t = some (.array m e)) (hs : szB P e = some 1) (ha : aggB P e = some false) (h0 : 0 ≤ i) (h1 : i < m) (hv : cs[i.toNat]? = some v) :
    (Instr.index t (.agg cs) (.int k i)).run P w = .ok v w := by
  unfold Instr.index
  rw [Sem.run_bind, show (asIntOf (.int k i)).run P w = .ok (k, i) w from rfl]
  simp only [Result.andThen]
  rw [Sem.run_bind, run_underlying hu]
  simp only [Result.andThen]
  rw [if_pos ⟨h0, h1⟩, Sem.run_bind, run_size hs]
  simp only [Result.andThen]
  unfold part
  rw [Sem.run_bind, run_agg ha]
  simp only [Result.andThen]
  rw [show i.toNat * 1 = i.toNat by omega]
  show ((match cs[i.toNat]? with | some v => pure v | none => stuck "part: no such cell" : Sem Value)).run P w = _
  rw [hv]
  rfl
/-! ### copies -/
/-- What a copy or an append takes of its second operand. -/
structure First (P : Program) (x : Value) (m : Nat) (news : List Value) (w : World) : Prop where
  len : ∀ w' : World, (Builtin.lenOf x).run P w' = .ok m w'
  cells : ∀ n, n ≤ m → (Builtin.firstCells 1 n x).run P w = .ok (news.take n).toArray w
  newsLen : news.length = m
  one : ∀ u ∈ news, u.oneCell' = true
theorem RB.first {g o c : Nat} {l : List Int} (h : RB w g o l) : First P (.slice (some ⟨g, o, none⟩) l.length c) l.length (l.map (Value.int .u8)) w :=
  ⟨fun _ => rfl, fun n hn => run_firstCells_some w 1 n ⟨g, o, none⟩ l.length c _ (by simp; omega) (fun j u hj => by
    rw [addp]
    have hj' : j < n := by
      have h1 := (List.getElem?_eq_some_iff.1 hj).1
      simp at h1
      omega
    rw [List.getElem?_take_of_lt hj', List.getElem?_map] at hj
    obtain ⟨v, hv, rfl⟩ := Option.map_eq_some_iff.1 hj
    exact h j v hv), by simp, fun u hu => by
    obtain ⟨_, _, rfl⟩ := List.mem_map.1 hu
    rfl⟩
theorem first_nil (c : Nat) : First P (.slice none 0 c) 0 [] w :=
  ⟨fun _ => rfl, fun n hn => (by
    have h0 : n = 0 := by omega
    subst h0
    exact run_firstCells_none w 1 0 0 c), rfl, fun _ h => by cases h⟩
theorem first_string (s : ByteArray) : First P (.string s) s.size ((ints s).map (Value.int .u8)) w :=
  ⟨fun _ => rfl, fun n hn => by
    simp only [Builtin.firstCells]
    have : ((s.extract 0 n).data.map fun b => Value.int .u8 b.toNat) = (((ints s).map (Value.int .u8)).take n).toArray := by
      apply Array.toList_inj.1
      unfold ints
      rw [Array.toList_map, ByteArray.data_extract, Array.toList_extract, List.map_map]
      simp only [List.extract_eq_take_drop, Nat.sub_zero, List.drop_zero, List.map_take]
      rfl
    rw [this]
    rfl, by rw [List.length_map, ints_len], fun u hu => by
    obtain ⟨_, _, rfl⟩ := List.mem_map.1 hu
    rfl⟩
theorem run_copy_own {t tx ty e : TypeId} {x : Value} {m dl dc k : Nat} {news : List Value} {g j : Nat} {cs : Array Value} {tt : TypeId} (H : HH B w0 w L) (ht : P.underlying t = some (.slice e)) (hs : szB P e = some 1)
    (hm : (g, Obj.cells cs tt (0, 0)) ∈ L) (hf : First P x m news w) (hj : j + dl ≤ cs.size) (hk : Nat.min m dl = k) :
    ∃ w', (Builtin.copy_ #[t, tx] ty #[.slice (some ⟨g, j, none⟩) dl dc, x]).run P w = .ok (.int .i64 (k : Int)) w' ∧ ∀ L', Rep L g (.cells cs tt (0, 0)) g (.cells (spl cs j (news.take k)) tt (0, 0)) L' → HH B w0 w' L' := by
  have hk1 : k ≤ m := by rw [← hk]; exact Nat.min_le_left _ _
  have hk2 : k ≤ dl := by rw [← hk]; exact Nat.min_le_right _ _
  have hone : ∀ v ∈ news.take k, v.oneCell' = true := fun v hv => hf.one v (List.mem_of_mem_take hv)
  have hlen : (news.take k).length = k := by rw [List.length_take, hf.newsLen]; omega
  have hat := H.at_ _ hm
  simp only at hat
  have hst := run_storeCells_cells (P := P) g j (news.take k) 0 w (by
      intro i hi
      rw [hlen] at hi
      simp only [World.cell?, hat, Nat.add_zero]
      rw [Array.getElem?_eq_getElem (by omega)]
      rfl) (by intro i hi; simp [World.frozen?, hat]) hone
  simp only [Nat.add_zero] at hst
  refine ⟨w.setCells g j (news.take k), ?_, fun L' hL' => H.sets (news.take k) j cs hL'⟩
  have h1 := hf.cells k hk1
  have h0 : (List.take k news).toArray.toList = List.take k news := rfl
  subst hk
  simp only [Builtin.copy_, List.getElem?_toArray, List.getElem?_cons_zero, List.getElem?_cons_succ, Sem.run_bind, run_underlying ht, Result.andThen, hf.len, run_size hs, h1, h0, hst]
  rfl
theorem l_copy {x y : Operand} {t tx e : TypeId} {v : Value} {m dl dc k : Nat} {news : List Value} {g j : Nat} {cs : Array Value} {tt : TypeId} {L' : List (Nat × Obj)} (S : SL a n ds F) (H : HH B w0 w L)
    (ho : o.op = .call { callee := .builtin .copy, args := #[x, y], argTypes := #[t, tx] }) (hx : ev F x = some (.slice (some ⟨g, j, none⟩) dl dc)) (hy : ev F y = some v) (ht : P.underlying t = some (.slice e)) (hs : szB P e = some 1)
    (hf : First P v m news w) (hj : j + dl ≤ cs.size) (hk : Nat.min m dl = k) (hu : Rep L g (.cells cs tt (0, 0)) g (.cells (spl cs j (news.take k)) tt (0, 0)) L') (hg : o.guard = none) (hd : o.dst = some d) (hn : Nat.blt d n = true)
    (h : ∀ w a, HH B w0 w L' → SL a n ds ((d, .int .i64 (k : Int)) :: F) → wpList P ops Q rest a w) : wpList P ops Q (o :: rest) a w := by
  obtain ⟨w', h1, h2⟩ := run_copy_own (P := P) (tx := tx) (ty := o.type) (dc := dc) H ht hs hu.mem hf hj hk
  refine l_event S (v := .int .i64 (k : Int)) (w1 := w') (fun ρ A => ?_) hg hd hn (fun a S' => h w' a (h2 L' hu) S')
  have e1 := A x _ hx
  have e2 := A y _ hy
  unfold execOp
  simp only [ho, resolve]
  rw [show Array.map ρ #[x, y] = #[.slice (some ⟨g, j, none⟩) dl dc, v] by simp [e1, e2]]
  have hinv : ∀ c0, (invoke (Target.builtin .copy #[t, tx] o.type c0) #[.slice (some ⟨g, j, none⟩) dl dc, v]).run P w = .ok (.value (.int .i64 (k : Int))) w' := fun _ => run_v h1
  exact hinv #[]
theorem d_copy {dss : List Nat} {fuel : Nat} {l : Array Bool} {K : World → Prop} {i : Nat} {oi : Oper} {x y : Operand} {t tx e : TypeId} {v : Value} {m dl dc k : Nat} {news : List Value} {g j : Nat} {cs : Array Value} {tt : TypeId} {L' : List (Nat × Obj)} (l' : Array Bool) (S : SL a n ds F) (H : HH B w0 w L) (hi : ops[i]? = some oi)
    (ho : oi.op = .call { callee := .builtin .copy, args := #[x, y], argTypes := #[t, tx] }) (hx : ev F x = some (.slice (some ⟨g, j, none⟩) dl dc)) (hy : ev F y = some v) (ht : P.underlying t = some (.slice e)) (hs : szB P e = some 1)
    (hf : First P v m news w) (hj : j + dl ≤ cs.size) (hk : Nat.min m dl = k) (hu : Rep L g (.cells cs tt (0, 0)) g (.cells (spl cs j (news.take k)) tt (0, 0)) L') (hw : Region.wanted oi (yielded ops a.tmps) = true) (hd : oi.dst = some d) (hn : Nat.blt d n = true)
    (hc : YtnmelglnkefjfaaDoorW.PrintLast.readyB .any ops l l' i = true) (hds : dss.contains i = true)
    (h : ∀ w a, HH B w0 w L' → SL a n ds ((d, .int .i64 (k : Int)) :: F) → YtnmelglnkefjfaaDoorW.PrintLast.wpAnyLast P .any ops Q K dss fuel l' a w) : YtnmelglnkefjfaaDoorW.PrintLast.wpAnyLast P .any ops Q K dss (fuel + 1) l a w := by
  obtain ⟨w', h1, h2⟩ := run_copy_own (P := P) (tx := tx) (ty := oi.type) (dc := dc) H ht hs hu.mem hf hj hk
  refine YtnmelglnkefjfaaDoorW.PrintLast.last_ l' hi hd hc (by simpa using hds) (fun K hK => YtnmelglnkefjfaaDoorW.PrintLast.value_ (v := .int .i64 (k : Int)) (w1 := w') hw hd ?_ (hK.out _ _ (h w' _ (h2 L' hu) (S.put hn _))))
  have e1 := S.agree x _ hx
  have e2 := S.agree y _ hy
  unfold execOp
  simp only [ho, resolve]
  rw [show Array.map a.eval #[x, y] = #[.slice (some ⟨g, j, none⟩) dl dc, v] by simp [e1, e2]]
  have hinv : ∀ c0, (invoke (Target.builtin .copy #[t, tx] oi.type c0) #[.slice (some ⟨g, j, none⟩) dl dc, v]).run P w = .ok (.value (.int .i64 (k : Int))) w' := fun _ => run_v h1
  exact hinv #[]
theorem sl_hi {t e : TypeId} {w : World} {k : IntKind} {m s n' c : Nat} {A : Option Addr} {i : Int} (hu : P.underlying t = some (.slice e)) (hs : szB P e = some s) (hi : i = (m : Int)) (hm : m ≤ c) :
    (Instr.sliceAt t (.slice A n' c) none (some (.int k i)) none).run P w = .ok (.slice A m c) w := by
  subst hi
  rw [sl_slice_hi hu hs (by omega) (by omega), Int.toNat_natCast]
/-! ### cuts of arrays -/
theorem sl_arr {t e : TypeId} {N s : Nat} {g j : Nat} {k k' : IntKind} {l h : Int} (hu : P.underlying t = some (.array N e)) (hs : szB P e = some s) (h0 : 0 ≤ l) (h1 : l ≤ h) (h2 : h ≤ N) :
    (Instr.sliceAt t (.pointer (some ⟨g, j, none⟩)) (some (.int k l)) (some (.int k' h)) none).run P w = .ok (.slice (some ⟨g, if N = l.toNat then j else j + l.toNat * s, none⟩) (h.toNat - l.toNat) (N - l.toNat)) w := by
  unfold Instr.sliceAt
  rw [Sem.run_bind, run_underlying hu]
  have hh : 0 ≤ h := by omega
  obtain ⟨h', rfl⟩ := Int.eq_ofNat_of_zero_le hh
  obtain ⟨l', rfl⟩ := Int.eq_ofNat_of_zero_le h0
  have hl : l' ≤ h' := by omega
  have h3 : h' ≤ N := by omega
  simp only [Result.andThen]
  simp [Instr.sliceBounds, Instr.sliceBound, asIntOf, Sem.run_bind, Result.andThen, h3, hl, run_size hs, Instr.sureAddr]
  split <;> simp [addp]
theorem sl_arr_all {t e : TypeId} {N s : Nat} {g j : Nat} (hu : P.underlying t = some (.array N e)) (hs : szB P e = some s) (hN : 0 < N) :
    (Instr.sliceAt t (.pointer (some ⟨g, j, none⟩)) none none none).run P w = .ok (.slice (some ⟨g, j, none⟩) N N) w := by
  unfold Instr.sliceAt
  rw [Sem.run_bind, run_underlying hu]
  simp only [Result.andThen]
  have : ¬ N = 0 := by omega
  simp [Instr.sliceBounds, Instr.sliceBound, asIntOf, Sem.run_bind, Result.andThen, run_size hs, Instr.sureAddr, this, addp]
theorem sl_arr_lo {t e : TypeId} {N s : Nat} {g j : Nat} {k : IntKind} {l : Int} (hu : P.underlying t = some (.array N e)) (hs : szB P e = some s) (h0 : 0 ≤ l) (h2 : l ≤ N) :
    (Instr.sliceAt t (.pointer (some ⟨g, j, none⟩)) (some (.int k l)) none none).run P w = .ok (.slice (some ⟨g, if N = l.toNat then j else j + l.toNat * s, none⟩) (N - l.toNat) (N - l.toNat)) w := by
  unfold Instr.sliceAt
  rw [Sem.run_bind, run_underlying hu]
  obtain ⟨l', rfl⟩ := Int.eq_ofNat_of_zero_le h0
  have h3 : l' ≤ N := by omega
  simp only [Result.andThen]
  simp [Instr.sliceBounds, Instr.sliceBound, asIntOf, Sem.run_bind, Result.andThen, h3, run_size hs, Instr.sureAddr]
  split <;> simp [addp]
theorem sl_arr_hi {t e : TypeId} {N s : Nat} {g j : Nat} {k : IntKind} {h : Int} (hu : P.underlying t = some (.array N e)) (hs : szB P e = some s) (h0 : 0 ≤ h) (h2 : h ≤ N) (hN : 0 < N) :
    (Instr.sliceAt t (.pointer (some ⟨g, j, none⟩)) none (some (.int k h)) none).run P w = .ok (.slice (some ⟨g, j, none⟩) h.toNat N) w := by
  unfold Instr.sliceAt
  rw [Sem.run_bind, run_underlying hu]
  obtain ⟨h', rfl⟩ := Int.eq_ofNat_of_zero_le h0
  have h3 : h' ≤ N := by omega
  have : ¬ N = 0 := by omega
  simp only [Result.andThen]
  simp [Instr.sliceBounds, Instr.sliceBound, asIntOf, Sem.run_bind, Result.andThen, h3, run_size hs, Instr.sureAddr, this, addp]
end
theorem p_len {P : Program} {F : List (Nat × Value)} {x : Operand} {t e : TypeId} {A : Option Addr} {n c : Nat} (ht : P.underlying t = some (.slice e)) (hx : ev F x = some (.slice A n c)) : Pure P F (.call { callee := .builtin .len, args := #[x], argTypes := #[t] }) (.int .i64 (n : Int)) :=
  p_builtin (xs := [x]) (vs := [.slice A n c]) (by simp [evs, hx]) (fun ty cs w => by
    show ((Builtin.len_ #[t] ty #[.slice A n c]) >>= fun v => pure (Next.value v)).run P w = _
    have : (Builtin.len_ #[t] ty #[.slice A n c]).run P w = .ok (.int .i64 (n : Int)) w := by
      simp only [Builtin.len_, List.getElem?_toArray, List.getElem?_cons_zero, Sem.run_bind, run_underlying ht, Result.andThen]
      rfl
    rw [Sem.run_bind, this]
    rfl)
theorem p_lens {P : Program} {F : List (Nat × Value)} {x : Operand} {t : TypeId} {s : ByteArray} (ht : P.underlying t = some .string) (hx : ev F x = some (.string s)) : Pure P F (.call { callee := .builtin .len, args := #[x], argTypes := #[t] }) (.int .i64 (s.size : Int)) :=
  p_builtin (xs := [x]) (vs := [.string s]) (by simp [evs, hx]) (fun ty cs w => by
    show ((Builtin.len_ #[t] ty #[.string s]) >>= fun v => pure (Next.value v)).run P w = _
    have : (Builtin.len_ #[t] ty #[.string s]).run P w = .ok (.int .i64 (s.size : Int)) w := by
      simp only [Builtin.len_, List.getElem?_toArray, List.getElem?_cons_zero, Sem.run_bind, run_underlying ht, Result.andThen]
      rfl
    rw [Sem.run_bind, this]
    rfl)
theorem p_cap {P : Program} {F : List (Nat × Value)} {x : Operand} {t e : TypeId} {A : Option Addr} {n c : Nat} (ht : P.underlying t = some (.slice e)) (hx : ev F x = some (.slice A n c)) : Pure P F (.call { callee := .builtin .cap, args := #[x], argTypes := #[t] }) (.int .i64 (c : Int)) :=
  p_builtin (xs := [x]) (vs := [.slice A n c]) (by simp [evs, hx]) (fun ty cs w => by
    show ((Builtin.cap_ #[t] ty #[.slice A n c]) >>= fun v => pure (Next.value v)).run P w = _
    have : (Builtin.cap_ #[t] ty #[.slice A n c]).run P w = .ok (.int .i64 (c : Int)) w := by
      simp only [Builtin.cap_, List.getElem?_toArray, List.getElem?_cons_zero, Sem.run_bind, run_underlying ht, Result.andThen]
      rfl
    rw [Sem.run_bind, this]
    rfl)
/-! ### arrays out of their elements -/
section
variable {P : Program} {ops : Array Oper} {Q : Exit → Act → World → Prop} {o : Oper} {rest : List Oper} {a : Act} {n : Nat} {ds : List Deferred} {F : List (Nat × Value)} {B : Nat} {w0 w : World} {L : List (Nat × Obj)} {d : Nat}
theorem p_arr {t e : TypeId} {m : Nat} {parts : Array (Nat × Operand)} {vs : List Value} (xs : List Operand) (hu : P.underlying t = some (.array m e)) (hsz : szB P e = some 1) (hz : (zvB P t).map (·.cells.size) = some vs.length) (hx : evs F xs = some vs)
    (hparts : parts.toList = (xs.zipIdx 0).map fun x => (x.2, x.1)) (h1 : ∀ v ∈ vs, v.cells = #[v]) : Pure P F (.build t parts) (.agg vs.toArray) := by
  intro ρ A o ho w
  unfold execOp
  simp only [ho]
  refine run_v ?_
  obtain ⟨ie, hie, his⟩ := Option.map_eq_some_iff.1 hsz
  obtain ⟨z, hzz, hz2⟩ := Option.map_eq_some_iff.1 hz
  obtain ⟨it, hit, hiz⟩ := Option.bind_eq_some_iff.1 hzz
  refine run_build w t _ _ ?_
  unfold Program.built
  simp only [hit, hu, hiz, hie]
  have e1 : (parts.map fun x => (x.1, ρ x.2)).toList = (vs.zipIdx 0).map fun x => (x.2, x.1) := by
    have := parts_ev (ρ := ρ) (A.list hx)
    rw [← this, Array.toList_map, hparts]
    simp
  rw [e1, his]
  exact Great.fill_flat _ _ h1 (by simp [hz2])
theorem d_storeAll {dss : List Nat} {fuel : Nat} {l : Array Bool} {L' : List (Nat × Obj)} {K : World → Prop} {i : Nat} {oi : Oper} {t : TypeId} {x y : Operand} {g : Nat} {cs : Array Value} {tt : TypeId} {vs : List Value} (l' : Array Bool) (S : SL a n ds F) (H : HH B w0 w L) (hi : ops[i]? = some oi) (ho : oi.op = .store t x y)
    (hx : ev F x = some (.pointer (some ⟨g, 0, none⟩))) (hy : ev F y = some (.agg vs.toArray)) (hs : szB P t = some vs.length) (hu : Rep L g (.cells cs tt (0, 0)) g (.cells vs.toArray tt (0, 0)) L') (hj : cs.size = vs.length) (h1 : ∀ v ∈ vs, v.oneCell' = true)
    (hw : Region.wanted oi (yielded ops a.tmps) = true) (hd : oi.dst = none) (hc : YtnmelglnkefjfaaDoorW.PrintLast.readyB .any ops l l' i = true) (hds : dss.contains i = true)
    (h : ∀ w a, HH B w0 w L' → SL a n ds F → YtnmelglnkefjfaaDoorW.PrintLast.wpAnyLast P .any ops Q K dss fuel l' a w) : YtnmelglnkefjfaaDoorW.PrintLast.wpAnyLast P .any ops Q K dss (fuel + 1) l a w := by
  obtain ⟨w', h2, h3⟩ := stores_ (P := P) (j := 0) vs 0 cs H (by rw [spl_all hj]; exact hu) (by omega) h1
  refine YtnmelglnkefjfaaDoorW.PrintLast.last_ l' hi hd hc (by simpa using hds) (fun K hK => YtnmelglnkefjfaaDoorW.PrintLast.skip_ (w1 := w') hw hd ?_ (hK.out _ _ (h _ _ h3 S)))
  unfold execOp
  simp only [ho]
  rw [S.agree x _ hx, S.agree y _ hy]
  show ((Instr.storeAt t (.pointer (some ⟨g, 0, none⟩)) (.agg vs.toArray)) >>= fun _ => pure Next.skip).run P w = _
  have h5 : (Instr.storeAt t (.pointer (some ⟨g, 0, none⟩)) (.agg vs.toArray)).run P w = .ok () w' := by
    unfold Instr.storeAt
    rw [Sem.run_bind, show (Instr.sureAddr (.pointer (some ⟨g, 0, none⟩))).run P w = .ok ⟨g, 0, none⟩ w from rfl]
    show (storeVar t ⟨g, 0, none⟩ (.agg vs.toArray)).run P w = _
    unfold storeVar
    rw [Sem.run_bind, run_size hs]
    have e0 : ¬ (Value.agg vs.toArray).cells.size ≠ vs.length := by simp [Value.cells]
    show (if (Value.agg vs.toArray).cells.size ≠ vs.length then _ else _ : Sem Unit).run P w = _
    rw [if_neg e0]
    exact h2
  rw [Sem.run_bind, h5]
  rfl
end
/-! ### whole numbers that count -/
theorem nat_addU {x y : Nat} (h : x + y ≤ 9223372036854775807) : IntKind.u64.wrap ((x : Int) + (y : Int)) = ((x + y : Nat) : Int) := by rw [IntKind.wrap_u64]; omega
theorem nat_subU {x y : Nat} (h : y ≤ x) (hx : x ≤ 9223372036854775807) : IntKind.u64.wrap ((x : Int) - (y : Int)) = ((x - y : Nat) : Int) := by rw [IntKind.wrap_u64]; omega
theorem nat_toU {x : Nat} (hx : x ≤ 9223372036854775807) : IntKind.u64.wrap (x : Int) = (x : Int) := by rw [IntKind.wrap_u64]; omega
theorem nat_toI {x : Nat} (hx : x ≤ 9223372036854775807) : IntKind.i64.wrap (x : Int) = (x : Int) := IntWalk.i64_in _ (by omega)
theorem nat_bv {x : Nat} (hx : x ≤ 9223372036854775807) : (x : Int) = ((BitVec.ofNat 64 x).toNat : Int) := by rw [BitVec.toNat_ofNat]; omega
theorem nat_u64 (n : Nat) : IntKind.u64.wrap (n : Int) = ((BitVec.ofNat 64 n).toNat : Int) := by rw [IntKind.wrap_u64, BitVec.toNat_ofNat]; omega
theorem nat_add {x y : Nat} (h : x + y ≤ 9223372036854775807) : IntKind.i64.wrap ((x : Int) + (y : Int)) = ((x + y : Nat) : Int) := by rw [IntWalk.i64_in _ (by omega)]; omega
theorem nat_sub {x y : Nat} (h : y ≤ x) (hx : x ≤ 9223372036854775807) : IntKind.i64.wrap ((x : Int) - (y : Int)) = ((x - y : Nat) : Int) := by rw [IntWalk.i64_in _ (by omega)]; omega
theorem nat_mul {x y : Nat} (h : x * y ≤ 9223372036854775807) : IntKind.i64.wrap ((x : Int) * (y : Int)) = ((x * y : Nat) : Int) := by
  have e : (x : Int) * (y : Int) = ((x * y : Nat) : Int) := (Int.natCast_mul _ _).symm
  rw [e, IntWalk.i64_in _ (by omega)]
theorem nat_quo (x y : Nat) (h : x ≤ 9223372036854775807) : IntKind.i64.wrap (Int.tdiv (x : Int) (y : Int)) = ((x / y : Nat) : Int) := by
  have e : Int.tdiv (x : Int) (y : Int) = ((x / y : Nat) : Int) := by rw [Int.tdiv_eq_ediv_of_nonneg (by omega)]; exact (Int.natCast_ediv _ _).symm
  have h2 := Nat.div_le_self x y
  rw [e]
  generalize x / y = z at h2 ⊢
  exact IntWalk.i64_in _ (by omega)
theorem nat_rem (x y : Nat) : Int.tmod (x : Int) (y : Int) = ((x % y : Nat) : Int) := by rw [Int.tmod_eq_emod_of_nonneg (by omega)]; exact (Int.natCast_emod _ _).symm
theorem nat_mask (k : Nat) (hk : k < 64) {x : Nat} (h : x ≤ 9223372036854775807) {m : Int} (hm : m = ((2 ^ k - 1 : Nat) : Int)) : IntKind.i64.wrap (BitVec.ofInt IntKind.i64.bits (x : Int) &&& BitVec.ofInt IntKind.i64.bits m).toNat = ((x % 2 ^ k : Nat) : Int) := by
  subst hm
  show IntKind.i64.wrap ((BitVec.ofInt 64 (x : Int) &&& BitVec.ofInt 64 ((2 ^ k - 1 : Nat) : Int)).toNat : Int) = _
  have hp : 2 ^ k ≤ 2 ^ 63 := Nat.pow_le_pow_right (by decide) (by omega)
  rw [BitVec.toNat_and, BitVec.ofInt_natCast, BitVec.ofInt_natCast, BitVec.toNat_ofNat, BitVec.toNat_ofNat, Nat.mod_eq_of_lt (a := x) (by omega), Nat.mod_eq_of_lt (a := 2 ^ k - 1) (by omega), Nat.and_two_pow_sub_one_eq_mod]
  have := Nat.mod_le x (2 ^ k)
  exact IntWalk.i64_in _ (by omega)
theorem nat_clear (k : Nat) (hk : k < 63) {x : Nat} (h : x ≤ 9223372036854775807) {m : Int} (hm : m = ((2 ^ k - 1 : Nat) : Int)) : IntKind.i64.wrap (BitVec.ofInt IntKind.i64.bits (x : Int) &&& ~~~ BitVec.ofInt IntKind.i64.bits m).toNat = ((x - x % 2 ^ k : Nat) : Int) := by
  subst hm
  show IntKind.i64.wrap ((BitVec.ofInt 64 (x : Int) &&& ~~~ BitVec.ofInt 64 ((2 ^ k - 1 : Nat) : Int)).toNat : Int) = _
  have hp : 2 ^ k ≤ 2 ^ 62 := Nat.pow_le_pow_right (by decide) (by omega)
  have hx : (BitVec.ofInt 64 (x : Int) &&& ~~~ BitVec.ofInt 64 ((2 ^ k - 1 : Nat) : Int)).toNat = x - x % 2 ^ k := by
    rw [BitVec.ofInt_natCast, BitVec.ofInt_natCast]
    have hd : x - x % 2 ^ k = 2 ^ k * (x / 2 ^ k) := by have := Nat.div_add_mod x (2 ^ k); omega
    rw [hd]
    apply Nat.eq_of_testBit_eq
    intro i
    rw [BitVec.testBit_toNat, BitVec.getLsbD_and, BitVec.getLsbD_not, Nat.testBit_two_pow_mul, Nat.testBit_div_two_pow]
    simp only [BitVec.getLsbD_ofNat, Nat.testBit_two_pow_sub_one]
    by_cases h1 : i < k
    · have h2 : ¬ k ≤ i := by omega
      simp [h1, h2]
    · have h2 : k ≤ i := by omega
      by_cases h3 : i < 64
      · simp [h1, h2, h3, show i - k + k = i by omega]
      · have : x.testBit i = false := Nat.testBit_lt_two_pow (Nat.lt_of_lt_of_le (show x < 2 ^ 64 by omega) (Nat.pow_le_pow_right (by decide) (by omega)))
        simp [h2, h3, show i - k + k = i by omega, this]
  rw [hx]
  have := Nat.sub_le x (x % 2 ^ k)
  generalize x - x % 2 ^ k = y at this ⊢
  exact IntWalk.i64_in _ (by omega)
theorem fv_all (f : Nat → Value) (n : Nat) : ((fv f n).toArray.toList.drop 0).take n = fv f n := by
  show ((fv f n).drop 0).take n = fv f n
  rw [List.drop_zero, List.take_of_length_le (by rw [fv_len]; exact Nat.le_refl _)]
/-- A new row of bytes, behind a call. -/
structure NewRow (w w' : World) (g c : Nat) (l : List Int) : Prop where
  below : Below w.heap.size w w'
  new : w.heap.size ≤ g
  row : ∃ cs e f, w'.heap[g]? = some (.cells cs e f) ∧ ∀ (i : Nat) (v : Int), l[i]? = some v → cs[i]? = some (Value.int .u8 v)
  cap : l.length ≤ c
theorem HH.more {B : Nat} {w0 w w' : World} {L : List (Nat × Obj)} {g : Nat} {o : Obj} (H : HH B w0 w L) (hb : Below w.heap.size w w') (hg : w.heap.size ≤ g) (hn : w'.heap[g]? = some o) : HH B w0 w' ((g, o) :: L) := by
  have H1 := H.later hb
  refine ⟨H1.below, H1.hB, ?_, ?_, ?_⟩
  · intro p hp
    rcases List.mem_cons.1 hp with rfl | hp
    · exact Nat.le_trans H.hB hg
    · exact H.lo p hp
  · exact List.pairwise_cons.2 ⟨fun q hq => by have := H.lt hq; simp only; omega, H.nodup⟩
  · intro p hp
    rcases List.mem_cons.1 hp with rfl | hp
    · exact hn
    · exact H1.at_ p hp
theorem Upd.cast {L L' : List (Nat × Obj)} {g j : Nat} {cs cs' : Array Value} {t : TypeId} {f : Nat × Nat} {v : Value} (h : cs.setIfInBounds j v = cs') (hu : Upd L g (.cells cs t f) (.cells cs' t f) L') : Upd L g (.cells cs t f) (.cells (cs.setIfInBounds j v) t f) L' := by
  subst h; exact hu
/-- A cell of what was there when the call began. -/
theorem r_loadO {P : Program} {F : List (Nat × Value)} {B : Nat} {w0 : World} {L : List (Nat × Obj)} {t : TypeId} {x : Operand} {g j : Nat} {cs : Array Value} {tt : TypeId} {f : Nat × Nat} {v : Value} (hat : w0.heap[g]? = some (.cells cs tt f)) (hB : B = w0.heap.size) (hx : ev F x = some (.pointer (some ⟨g, j, none⟩))) (hv : cs[j]? = some v)
    (h : ∀ w, w.cell? ⟨g, j, none⟩ = some v → (Instr.loadAt t (.pointer (some ⟨g, j, none⟩))).run P w = .ok v w) : Reads P F B w0 L (.load t x) v := by
  subst hB
  exact r_loads hx fun w H => h w (by
    have h2 := H.below.block g (Array.getElem?_eq_some_iff.1 hat).1
    simp [World.cell?, h2, hat, hv])
theorem sl_arr_lo' {P : Program} {w : World} {t e : TypeId} {N s : Nat} {g j j' n' : Nat} {k : IntKind} {l : Int} (hu : P.underlying t = some (.array N e)) (hs : szB P e = some s) (h0 : 0 ≤ l) (h2 : l ≤ N) (hj : (if N = l.toNat then j else j + l.toNat * s) = j') (hn : N - l.toNat = n') :
    (Instr.sliceAt t (.pointer (some ⟨g, j, none⟩)) (some (.int k l)) none none).run P w = .ok (.slice (some ⟨g, j', none⟩) n' n') w := by
  subst hj hn
  exact sl_arr_lo hu hs h0 h2
/-! ### rows that the call makes and appends to -/
theorem Upd.skip {L L' : List (Nat × Obj)} {g : Nat} {o o' : Obj} (ow : List (Nat × Obj)) (h : Upd L g o o' L') : Upd (ow ++ L) g o o' (ow ++ L') := by
  induction ow with
  | nil => exact h
  | cons p r ih => exact .there ih
theorem Rep.skip {L L' : List (Nat × Obj)} {g g' : Nat} {o o' : Obj} (ow : List (Nat × Obj)) (h : Rep L g o g' o' L') : Rep (ow ++ L) g o g' o' (ow ++ L') := by
  induction ow with
  | nil => exact h
  | cons p r ih => exact .there ih
def Thaw (cs : Array Value) (f : Nat × Nat) : Prop := ∀ j, j < cs.size → ¬ (f.1 ≤ j ∧ j < f.2)
theorem thaw0 (cs : Array Value) : Thaw cs (0, 0) := fun j _ h => by simp at h
theorem Thaw.at {w : World} {g : Nat} {cs : Array Value} {t : TypeId} {f : Nat × Nat} (h : Thaw cs f) (hat : w.heap[g]? = some (.cells cs t f)) {j : Nat} (hj : j < cs.size) : w.frozen? ⟨g, j, none⟩ = false := by
  have := h j hj
  obtain ⟨lo, hi⟩ := f
  simp only [World.frozen?, hat]
  simp only [Bool.and_eq_false_iff, decide_eq_false_iff_not]
  simp only at this
  omega
/-- A slice of n elements (of s cells each) that the call owns, or nil. -/
def Own (e : TypeId) (s : Nat) (v : Value) (n : Nat) (xs : List Value) (ow : List (Nat × Obj)) : Prop :=
  xs.length = n * s ∧ ((v = .slice none 0 0 ∧ n = 0 ∧ ow = []) ∨ ∃ g cs c f, v = .slice (some ⟨g, 0, none⟩) n c ∧ n ≤ c ∧ cs.size = c * s ∧ ow = [(g, .cells cs e f)] ∧ Thaw cs f ∧ ∀ j, j < xs.length → cs[j]? = xs[j]?)
theorem own_nil' (e : TypeId) (s : Nat) : Own e s (.slice none 0 0) 0 [] [] := ⟨by simp, .inl ⟨rfl, rfl, rfl⟩⟩
theorem Own.slice {e : TypeId} {s : Nat} {v : Value} {n : Nat} {xs : List Value} {ow : List (Nat × Obj)} (h : Own e s v n xs ow) : ∃ A c, v = .slice A n c ∧ n ≤ c := by
  rcases h.2 with ⟨rfl, rfl, _⟩ | ⟨g, cs, c, f, rfl, hc, _⟩
  · exact ⟨none, 0, rfl, Nat.le_refl _⟩
  · exact ⟨_, c, rfl, hc⟩
theorem Own.bytes {e : TypeId} {A : Option Addr} {n c : Nat} {l : List Int} {ow L : List (Nat × Obj)} {B : Nat} {w0 w : World} (h : Own e 1 (.slice A n c) n (l.map (Value.int .u8)) ow) (H : HH B w0 w (ow ++ L)) (hl : l.length ≤ 9223372036854775807) : (Kd.int .u8).C w A l.length l := by
  have hn : l.length = n := by have := h.1; simpa using this
  rcases h.2 with ⟨hv, h0, _⟩ | ⟨g, cs, c', f, hv, _, _, rfl, _, hr⟩
  · injection hv with h1 h2 h3
    subst h1
    exact ⟨rfl, hl, fun hp => by omega⟩
  · injection hv with h1 h2 h3
    subst h1
    refine RB.C (o := 0) (fun i v hi => ?_) hl
    have hat := H.at_ (g, Obj.cells cs e f) (by simp)
    simp only at hat
    have hi' := (List.getElem?_eq_some_iff.1 hi).1
    rw [Nat.zero_add]
    simp only [World.cell?, hat]
    rw [hr i (by simpa using hi'), List.getElem?_map, hi]
    rfl
theorem perm_own {Lp L : List (Nat × Obj)} {x : Nat × Obj} : (x :: (Lp ++ L)).Perm (Lp ++ ([x] ++ L)) := List.perm_middle.symm
theorem run_own {P : Program} {B : Nat} {w0 w : World} {Lp ow L : List (Nat × Obj)} {t tx ty e : TypeId} {z : Value} {s bytes : Nat} {v x : Value} {n m : Nat} {xs news : List Value} (H : HH B w0 w (Lp ++ (ow ++ L))) (hown : Own e s v n xs ow) (hsrc : Src P s tx x m news w)
    (ht : P.underlying t = some (.slice e)) (hinfo : (P.info? e).map (fun i => (i.zero, i.size, i.bytes)) = some (some z, s, bytes)) (hzs : z.cells.size = s) (hb : (n + m) * bytes ≤ 140737488355328) (hb0 : 0 < bytes) :
    ∃ v' ow' w', (Builtin.append_ #[t, tx] ty #[v, x]).run P w = .ok v' w' ∧ Own e s v' (n + m) (xs ++ news) ow' ∧ HH B w0 w' (Lp ++ (ow' ++ L)) := by
  obtain ⟨i, hi, hzz⟩ := Option.map_eq_some_iff.1 hinfo
  simp only [Prod.mk.injEq] at hzz
  obtain ⟨hz, hsz, hby⟩ := hzz
  subst hsz hby
  have hxl := hown.1
  have hnl := hsrc.newsLen
  have hle : n + m ≤ 140737488355328 := Nat.le_trans (Nat.le_mul_of_pos_right _ hb0) hb
  have hlen : (xs ++ news).length = (n + m) * i.size := by rw [List.length_append, hxl, hnl, Nat.add_mul]
  rcases hown.2 with ⟨rfl, h0, rfl⟩ | ⟨g, cs, c, f, rfl, hc, hcs, rfl, hth, hr⟩
  · subst h0
    have hx0 : xs = [] := List.length_eq_zero_iff.1 (by omega)
    subst hx0
    by_cases hm0 : m = 0
    · subst hm0
      have hn0 : news = [] := List.length_eq_zero_iff.1 (by omega)
      subst hn0
      refine ⟨.slice none 0 0, [], w, ?_, ⟨by simp, .inl ⟨rfl, rfl, rfl⟩⟩, H⟩
      have h1 := hsrc.cells
      rcases hsrc.kind with ⟨e', hk⟩ | hk <;> simp [Builtin.append_, run_underlying ht, run_underlying hk, sizeOf, typeInfo, hi, hsrc.len, h1]
    · have hold : (Builtin.firstCells i.size 0 (.slice none 0 0)).run P w.drew = .ok #[] w.drew := run_firstCells_none w.drew i.size 0 0 0
      have hr := run_append_grow_src (P := P) w t tx ty e i z ht hi hz none 0 0 [] hold x m news hsrc (by omega) (by omega) (growslice_fits (by omega) hb)
      have hge := grownCap_ge w (0 + m) 0 e
      refine ⟨_, [(w.heap.size, .cells (([] ++ news).toArray ++ Builtin.zeroCells z.cells (grownCap w (0 + m) 0 e - (0 + m))) e (0, 0))], _, hr, ⟨hlen, .inr ⟨w.heap.size, _, grownCap w (0 + m) 0 e, (0, 0), rfl, hge, ?_, rfl, thaw0 _, fun j hj => ?_⟩⟩, ?_⟩
      · simp only [Array.size_append, List.size_toArray, List.nil_append, size_zeroCells, hzs, hnl]
        rw [← Nat.add_mul]; congr 1; omega
      · rw [Array.getElem?_append_left (by simpa using hj)]; simp
      · have h2 := (H.drew).alloc (Obj.cells (([] ++ news).toArray ++ Builtin.zeroCells z.cells (grownCap w (0 + m) 0 e - (0 + m))) e (0, 0))
        exact h2.perm perm_own
  · have hm : (g, Obj.cells cs e f) ∈ Lp ++ ([(g, Obj.cells cs e f)] ++ L) := by simp
    have hat := H.at_ _ hm
    simp only at hat
    by_cases hroom : n + m ≤ c
    · have hsp : n * i.size + news.length ≤ cs.size := by rw [hcs, hnl, ← Nat.add_mul]; exact Nat.mul_le_mul_right _ hroom
      have hrun := run_append_room_src (P := P) w t tx ty e i ht hi g 0 n c x m news hsrc hroom (fun j hj => by simp [World.cell?, hat]; omega) (fun j hj => hth.at hat (by omega))
      rw [Nat.zero_add] at hrun
      refine ⟨_, [(g, .cells (spl cs (n * i.size) news) e f)], _, hrun, ⟨hlen, .inr ⟨g, spl cs (n * i.size) news, c, f, rfl, hroom, by rw [spl_size, hcs], rfl, fun j hj => hth j (by rw [spl_size] at hj; exact hj), fun j hj => ?_⟩⟩, H.sets news (n * i.size) cs (Rep.skip Lp (.here))⟩
      by_cases hj1 : j < xs.length
      · rw [spl_out _ _ _ _ (.inl (by omega)), List.getElem?_append_left hj1]; exact hr j hj1
      · rw [List.length_append] at hj
        have := spl_in news cs (n * i.size) (j - n * i.size) (by omega) (by omega)
        rw [show n * i.size + (j - n * i.size) = j by omega] at this
        rw [this, List.getElem?_append_right (by omega), hxl]
    · have hold : (Builtin.firstCells i.size n (.slice (some ⟨g, 0, none⟩) n c)).run P w.drew = .ok (cs.toList.take (n * i.size)).toArray w.drew := by
        refine run_firstCells_some w.drew i.size n ⟨g, 0, none⟩ n c _ ?_ (fun j u hj => ?_)
        · have : n * i.size ≤ c * i.size := Nat.mul_le_mul_right _ hc
          simp; omega
        · rw [addp]
          have h1 : j < n * i.size := by
            have := (List.getElem?_eq_some_iff.1 hj).1
            simp at this
            omega
          rw [List.getElem?_take, if_pos h1] at hj
          have h2 : w.drew.heap = w.heap := rfl
          simp only [World.cell?, h2, hat]
          simpa using hj
      have hrun := run_append_grow_src (P := P) w t tx ty e i z ht hi hz (some ⟨g, 0, none⟩) n c _ hold x m news hsrc (by omega) (by omega) (growslice_fits (by omega) hb)
      have hge := grownCap_ge w (n + m) c e
      have htk : (cs.toList.take (n * i.size)).length = n * i.size := by
        have : n * i.size ≤ c * i.size := Nat.mul_le_mul_right _ hc
        simp; omega
      refine ⟨_, [(w.heap.size, .cells ((cs.toList.take (n * i.size) ++ news).toArray ++ Builtin.zeroCells z.cells (grownCap w (n + m) c e - (n + m))) e (0, 0))], _, hrun, ⟨hlen, .inr ⟨w.heap.size, _, grownCap w (n + m) c e, (0, 0), rfl, hge, ?_, rfl, thaw0 _, fun j hj => ?_⟩⟩, H.swap (Rep.skip Lp .here)⟩
      · simp only [Array.size_append, List.size_toArray, List.length_append, size_zeroCells, hzs, hnl, htk]
        rw [← Nat.add_mul, ← Nat.add_mul]; congr 1; omega
      · rw [Array.getElem?_append_left (by simp only [List.size_toArray, List.length_append, htk]; rw [List.length_append] at hj; omega)]
        simp only [List.getElem?_toArray]
        by_cases hj1 : j < xs.length
        · rw [List.getElem?_append_left (by omega), List.getElem?_append_left hj1, List.getElem?_take, if_pos (by omega), ← hr j hj1]
          simp
        · rw [List.getElem?_append_right (by omega), List.getElem?_append_right (by omega), htk, hxl]
theorem l_own {P : Program} {ops : Array Oper} {Q : Exit → Act → World → Prop} {o : Oper} {rest : List Oper} {a : Act} {N : Nat} {ds : List Deferred} {F : List (Nat × Value)} {d : Nat} {B : Nat} {w0 w : World} (Lp : List (Nat × Obj)) {ow L : List (Nat × Obj)} {x y : Operand} {t tx e : TypeId} {z : Value} {s bytes : Nat} {v u : Value} {n m : Nat} {xs news : List Value}
    (S : SL a N ds F) (H : HH B w0 w (Lp ++ (ow ++ L))) (ho : o.op = .call { callee := .builtin .append, args := #[x, y], argTypes := #[t, tx] }) (hx : ev F x = some v) (hy : ev F y = some u) (hown : Own e s v n xs ow) (hsrc : Src P s tx u m news w)
    (ht : P.underlying t = some (.slice e)) (hinfo : (P.info? e).map (fun i => (i.zero, i.size, i.bytes)) = some (some z, s, bytes)) (hzs : z.cells.size = s) (hb : (n + m) * bytes ≤ 140737488355328) (hb0 : 0 < bytes) (hg : o.guard = none) (hd : o.dst = some d) (hn : Nat.blt d N = true)
    (h : ∀ v' ow' w a, Own e s v' (n + m) (xs ++ news) ow' → HH B w0 w (Lp ++ (ow' ++ L)) → SL a N ds ((d, v') :: F) → wpList P ops Q rest a w) : wpList P ops Q (o :: rest) a w := by
  obtain ⟨v', ow', w', h1, h2, h3⟩ := run_own (P := P) (ty := o.type) H hown hsrc ht hinfo hzs hb hb0
  refine l_event S (v := v') (w1 := w') (fun ρ A => ?_) hg hd hn (fun a S' => h v' ow' w' a h2 h3 S')
  have e1 := A x _ hx
  have e2 := A y _ hy
  unfold execOp
  simp only [ho, resolve]
  rw [show Array.map ρ #[x, y] = #[v, u] by simp [e1, e2]]
  have hinv : ∀ c0, (invoke (Target.builtin .append #[t, tx] o.type c0) #[v, u]).run P w = .ok (.value v') w' := fun _ => run_v h1
  exact hinv #[]
theorem src_lit {P : Program} {B : Nat} {w0 w : World} {L : List (Nat × Obj)} {tx e' e : TypeId} {g c : Nat} {vs : List Value} {f : Nat × Nat} (H : HH B w0 w L) (hm : (g, Obj.cells vs.toArray e f) ∈ L) (hk : P.underlying tx = some (.slice e')) (h1 : ∀ v ∈ vs, v.oneCell' = true) : Src P 1 tx (.slice (some ⟨g, 0, none⟩) vs.length c) vs.length vs w :=
  Src.ofSlice w hk ⟨g, 0, none⟩ vs.length c vs (by simp) (fun j u hj => by
    have hat := H.at_ _ hm
    simp only at hat
    rw [addp]
    simp [World.cell?, hat, hj]) h1
theorem src_rb {P : Program} {w : World} {tx e' : TypeId} {g o c : Nat} {l : List Int} (h : RB w g o l) (hk : P.underlying tx = some (.slice e')) : Src P 1 tx (.slice (some ⟨g, o, none⟩) l.length c) l.length (l.map (Value.int .u8)) w :=
  Src.ofSlice w hk ⟨g, o, none⟩ l.length c _ (by simp) (fun j u hj => by
    rw [List.getElem?_map] at hj
    obtain ⟨v, hv, rfl⟩ := Option.map_eq_some_iff.1 hj
    rw [addp]
    exact h j v hv) (fun u hu => by obtain ⟨_, _, rfl⟩ := List.mem_map.1 hu; rfl)
/-- '[]byte(s)' as a row of the call's own. -/
theorem l_bytesOwn {P : Program} {ops : Array Oper} {Q : Exit → Act → World → Prop} {o : Oper} {rest : List Oper} {a : Act} {N : Nat} {ds : List Deferred} {F : List (Nat × Value)} {d : Nat} {B : Nat} {w0 w : World} {L : List (Nat × Obj)} {t t' e : TypeId} {x : Operand} {s : ByteArray} (S : SL a N ds F) (H : HH B w0 w L) (ho : o.op = .convert t t' x) (hx : ev F x = some (.string s)) (hs : P.underlying t = some .string) (hd' : P.underlying t' = some (.slice e)) (he : P.underlying e = some (.int .u8))
    (hg : o.guard = none) (hd : o.dst = some d) (hn : Nat.blt d N = true)
    (h : ∀ v ow w a, Own e 1 v s.size ((ints s).map (Value.int .u8)) ow → HH B w0 w (ow ++ L) → SL a N ds ((d, v) :: F) → wpList P ops Q rest a w) : wpList P ops Q (o :: rest) a w := by
  refine l_event S (v := .slice (some ⟨w.heap.size, 0, none⟩) s.size (grownCap w s.size 0 e)) (w1 := Lib.bytesWorld w e s) (fun ρ A => ?_) hg hd hn (fun a S' => h _ [(w.heap.size, .cells (Lib.bytesCells w e s) e ((Lib.bytesCells w e s).size, (Lib.bytesCells w e s).size + 1))] _ a ?_ (H.push ?_ (Lib.bytesWorld_at_new w e s)) S')
  · unfold execOp
    simp only [ho]
    rw [A x _ hx]
    exact run_v (Lib.run_convert_string_bytes w t t' e s hs hd' he)
  · have hsz : (Lib.bytesCells w e s).size = grownCap w s.size 0 e := by
      unfold Lib.bytesCells
      have := grownCap_ge w s.size 0 e
      rw [Array.size_append, Array.size_map, Array.size_replicate]
      show s.size + _ = _
      omega
    refine ⟨by simp [ints_len], .inr ⟨w.heap.size, Lib.bytesCells w e s, grownCap w s.size 0 e, _, rfl, grownCap_ge _ _ _ _, by rw [hsz]; omega, rfl, fun j hj h => by simp at h; omega, fun j hj => ?_⟩⟩
    rw [List.length_map, ints_len] at hj
    unfold Lib.bytesCells ints
    rw [Array.getElem?_append_left (by simpa using hj)]
    simp [List.getElem?_map]
    rfl
  · refine ⟨rfl, rfl, rfl, ?_, fun k hk => Lib.bytesWorld_at_old w e s k hk⟩
    rw [Lib.bytesWorld_size]; omega
/-- The same of bytes. -/
def OwnB (e : TypeId) (v : Value) (l : List Int) (ow : List (Nat × Obj)) : Prop := Own e 1 v l.length (l.map (Value.int .u8)) ow
theorem ownB_nil (e : TypeId) : OwnB e (.slice none 0 0) [] [] := own_nil' e 1
theorem l_ownB {P : Program} {ops : Array Oper} {Q : Exit → Act → World → Prop} {o : Oper} {rest : List Oper} {a : Act} {N : Nat} {ds : List Deferred} {F : List (Nat × Value)} {d : Nat} {B : Nat} {w0 w : World} (Lp : List (Nat × Obj)) {ow L : List (Nat × Obj)} {x y : Operand} {t tx e : TypeId} {z : Value} {bytes : Nat} {u : Value} {A : Option Addr} {c : Nat} {l r : List Int}
    (S : SL a N ds F) (H : HH B w0 w (Lp ++ (ow ++ L))) (ho : o.op = .call { callee := .builtin .append, args := #[x, y], argTypes := #[t, tx] }) (hx : ev F x = some (.slice A l.length c)) (hy : ev F y = some u) (hown : OwnB e (.slice A l.length c) l ow) (hsrc : Src P 1 tx u r.length (r.map (Value.int .u8)) w)
    (ht : P.underlying t = some (.slice e)) (hinfo : (P.info? e).map (fun i => (i.zero, i.size, i.bytes)) = some (some z, 1, bytes)) (hzs : z.cells.size = 1) (hb : (l.length + r.length) * bytes ≤ 140737488355328) (hb0 : 0 < bytes) (hg : o.guard = none) (hd : o.dst = some d) (hn : Nat.blt d N = true)
    (h : ∀ A' c' ow' w a, OwnB e (.slice A' (l ++ r).length c') (l ++ r) ow' → HH B w0 w (Lp ++ (ow' ++ L)) → SL a N ds ((d, .slice A' (l ++ r).length c') :: F) → wpList P ops Q rest a w) : wpList P ops Q (o :: rest) a w := by
  refine l_own Lp S H ho hx hy hown hsrc ht hinfo hzs hb hb0 hg hd hn (fun v' ow' w a ho' H' S' => ?_)
  have hlen : l.length + r.length = (l ++ r).length := (List.length_append).symm
  rw [hlen, ← List.map_append] at ho'
  obtain ⟨A', c', rfl, _⟩ := ho'.slice
  exact h A' c' ow' w a ho' H' S'
theorem OwnB.rb {e : TypeId} {A : Option Addr} {c : Nat} {l : List Int} {ow L : List (Nat × Obj)} {B : Nat} {w0 w : World} (h : OwnB e (.slice A l.length c) l ow) (H : HH B w0 w (ow ++ L)) (hl : 0 < l.length) : ∃ g, A = some ⟨g, 0, none⟩ ∧ RB w g 0 l ∧ l.length ≤ c ∧ ∃ cs f, ow = [(g, .cells cs e f)] ∧ (∀ (i : Nat) (v : Int), l[i]? = some v → cs[i]? = some (Value.int .u8 v)) := by
  rcases h.2 with ⟨_, h0, _⟩ | ⟨g, cs, c', f, hv, hc, _, rfl, _, hr⟩
  · omega
  · injection hv with h1 h2 h3
    subst h1 h3
    have hrow : ∀ (i : Nat) (v : Int), l[i]? = some v → cs[i]? = some (Value.int .u8 v) := fun i v hi => by
      have hi' := (List.getElem?_eq_some_iff.1 hi).1
      rw [hr i (by simpa using hi'), List.getElem?_map, hi]
      rfl
    refine ⟨g, rfl, fun i v hi => ?_, hc, cs, f, rfl, hrow⟩
    have hat := H.at_ (g, Obj.cells cs e f) (by simp)
    simp only at hat
    rw [Nat.zero_add]
    simp only [World.cell?, hat]
    exact hrow i v hi
theorem OwnB.newRow {e : TypeId} {A : Option Addr} {c : Nat} {l : List Int} {ow L : List (Nat × Obj)} {w0 w : World} (h : OwnB e (.slice A l.length c) l ow) (H : HH w0.heap.size w0 w (ow ++ L)) (hl : 0 < l.length) : ∃ g, A = some ⟨g, 0, none⟩ ∧ NewRow w0 w g c l := by
  obtain ⟨g, rfl, _, hc, cs, f, rfl, hr⟩ := h.rb H hl
  have hm : (g, Obj.cells cs e f) ∈ [(g, Obj.cells cs e f)] ++ L := by simp
  exact ⟨g, rfl, H.below, H.lo _ hm, ⟨cs, e, f, H.at_ _ hm, hr⟩, hc⟩
theorem HH.bring {B : Nat} {w0 w : World} {ow L : List (Nat × Obj)} (H : HH B w0 w (ow ++ L)) : HH B w0 w L := H.sub (List.sublist_append_right ow L)
/-! ### results that lie in memory -/
theorem r_retc1 {P : Program} {fn : Func} {R : Ending → World → Prop} {a : Act} {n : Nat} {F : List (Nat × Value)} {w : World} {t : Tmp} {ty : TypeId} {ad : Addr} {v : Value} (S : SL a n [] F) (hr : fn.results = #[.cell t ty]) (ht : slot F t = some (.pointer (some ad))) (h1 : (loadVar ty ad).run P w = .ok v w) (h : R (.returned v) w) : bodyPost P fn R .ret a w :=
  ⟨S.defers, v, res_c1 hr ht h1 a.tmps S.at_, h⟩
theorem r_retct {P : Program} {fn : Func} {R : Ending → World → Prop} {a : Act} {n : Nat} {F : List (Nat × Value)} {w : World} {t t' : Tmp} {ty : TypeId} {ad : Addr} {v v' : Value} (S : SL a n [] F) (hr : fn.results = #[.cell t ty, .tmp t']) (ht : slot F t = some (.pointer (some ad))) (ht' : slot F t' = some v') (h1 : (loadVar ty ad).run P w = .ok v w) (h : R (.returned (.tuple #[v, v'])) w) : bodyPost P fn R .ret a w := by
  refine ⟨S.defers, _, ?_, h⟩
  simp [results, hr, S.at_ t _ ht, S.at_ t' _ ht', asAddr, Sem.run_bind, Result.andThen, h1]
theorem lva {P : Program} {B : Nat} {w0 w : World} {L : List (Nat × Obj)} {t : TypeId} {g m : Nat} {cs : List Value} {e : TypeId} {f : Nat × Nat} (h : aggB P t = some true) (hs : szB P t = some m) (hl : cs.length = m) (H : HH B w0 w L) (hm : (g, Obj.cells cs.toArray e f) ∈ L) : (loadVar t ⟨g, 0, none⟩).run P w = .ok (.agg cs.toArray) w := by
  have := ldn (P := P) (w := w) h (cs := cs) (by rw [hs, hl]) (g := g) (o := 0) (fun j v hj => by
    have hat := H.at_ _ hm
    simp only at hat
    simp [World.cell?, hat, hj])
  unfold Instr.loadAt at this
  rw [Sem.run_bind, show (Instr.sureAddr (.pointer (some ⟨g, 0, none⟩))).run P w = .ok ⟨g, 0, none⟩ w from rfl] at this
  exact this
/-! ### a callee's own blocks beside its caller's -/
theorem HH.join {B : Nat} {w0 w w' : World} {L L' : List (Nat × Obj)} (H : HH B w0 w L) (H1 : HH w.heap.size w w' L') : HH B w0 w' (L' ++ L) := by
  refine ⟨H.below.trans (H1.below.mono H.hB), Nat.le_trans H.hB H1.hB, ?_, ?_, ?_⟩
  · intro p hp
    rcases List.mem_append.1 hp with h | h
    · exact Nat.le_trans H.hB (H1.lo p h)
    · exact H.lo p h
  · refine List.pairwise_append.2 ⟨H1.nodup, H.nodup, fun p hp q hq => ?_⟩
    have h1 := H1.lo p hp
    have h2 := H.lt hq
    omega
  · intro p hp
    rcases List.mem_append.1 hp with h | h
    · exact H1.at_ p h
    · rw [H1.below.block p.1 (H.lt h)]
      exact H.at_ p h
theorem HH.pull1 {B : Nat} {w0 w : World} {L : List (Nat × Obj)} {a x : Nat × Obj} (H : HH B w0 w (a :: x :: L)) : HH B w0 w (x :: a :: L) := H.perm (List.Perm.swap x a L)
theorem HH.pull2 {B : Nat} {w0 w : World} {L : List (Nat × Obj)} {a b x : Nat × Obj} (H : HH B w0 w (a :: b :: x :: L)) : HH B w0 w (x :: a :: b :: L) := H.perm ((List.perm_middle (l₁ := [a, b]) (a := x) (l₂ := L)))
theorem HH.pull3 {B : Nat} {w0 w : World} {L : List (Nat × Obj)} {a b c x : Nat × Obj} (H : HH B w0 w (a :: b :: c :: x :: L)) : HH B w0 w (x :: a :: b :: c :: L) := H.perm ((List.perm_middle (l₁ := [a, b, c]) (a := x) (l₂ := L)))
theorem HH.pull4 {B : Nat} {w0 w : World} {L : List (Nat × Obj)} {a b c e x : Nat × Obj} (H : HH B w0 w (a :: b :: c :: e :: x :: L)) : HH B w0 w (x :: a :: b :: c :: e :: L) := H.perm ((List.perm_middle (l₁ := [a, b, c, e]) (a := x) (l₂ := L)))
end Go.Proofs.HHW
