/- SHA-1 in plain Lean: blocks, padding, the sum; what a sum that is fed by pieces has. -/
import Derived.Test.YtnmelglnkefjfaaGreatDoorSw
namespace Go.Proofs.YtnmelglnkefjfaaGreatDoor.sha
open Go.RowKit Go.Proofs.HHW Go.Proofs.YtnmelglnkefjfaaGreatDoorW.PrintWords
set_option linter.unusedVariables false
abbrev Wd := BitVec 32
structure St where
  a : Wd
  b : Wd
  c : Wd
  d : Wd
  e : Wd
def St.at (s : St) (i : Nat) : Wd := if i = 0 then s.a else if i = 1 then s.b else if i = 2 then s.c else if i = 3 then s.d else s.e
def St.of (f : Nat → Wd) : St := ⟨f 0, f 1, f 2, f 3, f 4⟩
def rot (x : Wd) (n : Nat) : Wd := x <<< n ||| x >>> (32 - n)
def ws (m : Nat → Wd) (t : Nat) : Wd := if h : t < 16 then m t else rot (ws m (t - 3) ^^^ ws m (t - 8) ^^^ ws m (t - 14) ^^^ ws m (t - 16)) 1
termination_by t
decreasing_by all_goals omega
theorem ws_lo {m : Nat → Wd} {t : Nat} (h : t < 16) : ws m t = m t := by rw [ws, dif_pos h]
theorem ws_hi {m : Nat → Wd} {t : Nat} (h : ¬ t < 16) : ws m t = rot (ws m (t - 3) ^^^ ws m (t - 8) ^^^ ws m (t - 14) ^^^ ws m (t - 16)) 1 := by rw [ws, dif_neg h]
def fF (t : Nat) (b c d : Wd) : Wd := if t / 20 = 0 then (b &&& c) ^^^ (~~~ b &&& d) else if t / 20 = 1 then b ^^^ c ^^^ d else if t / 20 = 2 then (b &&& c) ^^^ (b &&& d) ^^^ (c &&& d) else b ^^^ c ^^^ d
def kF (t : Nat) : Wd := if t / 20 = 0 then 1518500249#32 else if t / 20 = 1 then 1859775393#32 else if t / 20 = 2 then 2400959708#32 else 3395469782#32
def rnd (m : Nat → Wd) (t : Nat) (s : St) : St := ⟨rot s.a 5 + fF t s.b s.c s.d + s.e + kF t + ws m t, s.a, rot s.b 30, s.c, s.d⟩
def rnds (m : Nat → Wd) : Nat → St → St
  | 0, s => s
  | t + 1, s => rnd m t (rnds m t s)
def St.add (s v : St) : St := ⟨s.a + v.a, s.b + v.b, s.c + v.c, s.d + v.d, s.e + v.e⟩
def blk (m : Nat → Wd) (h : St) : St := h.add (rnds m 80 h)
def b8 (l : List Int) (i : Nat) : BitVec 8 := BitVec.ofInt 8 (l.getD i 0)
def mw (l : List Int) (t : Nat) : Wd := (b8 l (4 * t)).setWidth 32 <<< 24 ||| (b8 l (4 * t + 1)).setWidth 32 <<< 16 ||| (b8 l (4 * t + 2)).setWidth 32 <<< 8 ||| (b8 l (4 * t + 3)).setWidth 32
theorem b8_take {l : List Int} {i n : Nat} (h : i < n) : b8 (l.take n) i = b8 l i := by
  unfold b8
  rw [List.getD_eq_getElem?_getD, List.getD_eq_getElem?_getD, List.getElem?_take_of_lt h]
theorem rnds_congr {m m' : Nat → Wd} (h : ∀ t, t < 16 → m t = m' t) : ∀ n s, rnds m n s = rnds m' n s := by
  have hw : ∀ t, ws m t = ws m' t := by
    intro t
    induction t using Nat.strongRecOn with
    | _ t ih =>
      by_cases h1 : t < 16
      · rw [ws_lo h1, ws_lo h1, h t h1]
      · rw [ws_hi h1, ws_hi h1, ih (t - 3) (by omega), ih (t - 8) (by omega), ih (t - 14) (by omega), ih (t - 16) (by omega)]
  intro n
  induction n with
  | zero => intro s; rfl
  | succ n ih => intro s; simp only [rnds, ih]; unfold rnd; rw [hw]
theorem blk_take (l : List Int) (h : St) : blk (mw (l.take 64)) h = blk (mw l) h := by
  unfold blk
  rw [rnds_congr (m' := mw l)]
  intro t ht
  unfold mw
  rw [b8_take (by omega), b8_take (by omega), b8_take (by omega), b8_take (by omega)]
/-- Whole blocks. -/
def blks (h : St) (l : List Int) : St := if _h : 64 ≤ l.length then blks (blk (mw l) h) (l.drop 64) else h
termination_by l.length
decreasing_by rw [List.length_drop]; omega
theorem blks_ge {h : St} {l : List Int} (hl : 64 ≤ l.length) : blks h l = blks (blk (mw l) h) (l.drop 64) := by rw [blks, dif_pos hl]
theorem blks_lt {h : St} {l : List Int} (hl : ¬ 64 ≤ l.length) : blks h l = h := by rw [blks, dif_neg hl]
theorem mw_app (l r : List Int) (h : 64 ≤ l.length) : ∀ t, t < 16 → mw (l ++ r) t = mw l t := by
  have hb : ∀ i, i < 64 → b8 (l ++ r) i = b8 l i := by
    intro i hi
    unfold b8
    rw [List.getD_eq_getElem?_getD, List.getD_eq_getElem?_getD, List.getElem?_append_left (by omega)]
  intro t ht
  unfold mw
  rw [hb _ (by omega), hb _ (by omega), hb _ (by omega), hb _ (by omega)]
theorem blks_app (k : Nat) : ∀ (h : St) (l r : List Int), l.length = 64 * k → blks h (l ++ r) = blks (blks h l) r := by
  induction k with
  | zero =>
    intro h l r hl
    have : l = [] := List.length_eq_zero_iff.1 (by omega)
    subst this
    rw [blks_lt (l := []) (by simp)]; rfl
  | succ k ih =>
    intro h l r hl
    rw [blks_ge (l := l ++ r) (by rw [List.length_append]; omega), blks_ge (l := l) (by omega), List.drop_append_of_le_length (by omega)]
    have : blk (mw (l ++ r)) h = blk (mw l) h := by
      unfold blk
      rw [rnds_congr (mw_app l r (by omega))]
    rw [this]
    exact ih _ _ _ (by rw [List.length_drop]; omega)
/-- What stands behind the whole blocks. -/
def tl (l : List Int) : List Int := l.drop (64 * (l.length / 64))
def hd (l : List Int) : List Int := l.take (64 * (l.length / 64))
theorem hd_tl (l : List Int) : hd l ++ tl l = l := List.take_append_drop _ _
theorem tl_len (l : List Int) : (tl l).length = l.length % 64 := by unfold tl; rw [List.length_drop]; omega
theorem hd_len (l : List Int) : (hd l).length = 64 * (l.length / 64) := by unfold hd; rw [List.length_take]; omega
theorem blks_hd (h : St) (l : List Int) : blks h l = blks h (hd l) := by
  conv => lhs; rw [← hd_tl l]
  rw [blks_app _ h (hd l) (tl l) (hd_len l), blks_lt]
  rw [tl_len]; omega
theorem blks_more (h : St) (l r : List Int) : blks h (l ++ r) = blks (blks h l) (tl l ++ r) := by
  conv => lhs; rw [← hd_tl l, List.append_assoc]
  rw [blks_app _ h (hd l) _ (hd_len l), ← blks_hd]
theorem tl_more (l r : List Int) : tl (l ++ r) = tl (tl l ++ r) := by
  have h1 : l ++ r = hd l ++ (tl l ++ r) := by rw [← List.append_assoc, hd_tl]
  have h2 := hd_len l
  have h3 := tl_len l
  conv => lhs; rw [h1]
  unfold tl
  rw [List.length_append, h2]
  generalize hq : List.drop (64 * (l.length / 64)) l ++ r = q
  have : 64 * ((64 * (l.length / 64) + q.length) / 64) = (hd l).length + 64 * (q.length / 64) := by rw [h2]; omega
  rw [this, List.drop_append]
  rw [List.drop_eq_nil_of_le (by omega)]
  simp
theorem tl_short {l : List Int} (h : l.length < 64) : tl l = l := by
  unfold tl
  rw [show l.length / 64 = 0 by omega]; rfl
theorem tl_64 {l : List Int} (h : l.length = 64) : tl l = [] := by
  unfold tl
  rw [h]
  exact List.drop_eq_nil_of_le (by omega)
theorem blks_one {h : St} {l : List Int} (hl : l.length = 64) : blks h l = blk (mw l) h := by
  rw [blks_ge (by omega), blks_lt]
  rw [List.length_drop]; omega
theorem blks_short {h : St} {l : List Int} (hl : l.length < 64) : blks h l = h := blks_lt (by omega)
def init : St := ⟨1732584193#32, 4023233417#32, 2562383102#32, 271733878#32, 3285377520#32⟩
def be8 (n : BitVec 64) : List Int := (List.range 8).map fun i => (((n >>> (56 - 8 * i)).setWidth 8).toNat : Int)
def zn (n : Nat) : Nat := (119 - n % 64) % 64
def padding (n : Nat) : List Int := 128 :: (List.replicate (zn n) 0 ++ be8 (8#64 * BitVec.ofNat 64 n))
def padded (l : List Int) : List Int := l ++ padding l.length
def by4 (x : Wd) : List Int := [(((x >>> 24).setWidth 8).toNat : Int), (((x >>> 16).setWidth 8).toNat : Int), (((x >>> 8).setWidth 8).toNat : Int), ((x.setWidth 8).toNat : Int)]
def outb (s : St) : List Int := by4 s.a ++ by4 s.b ++ by4 s.c ++ by4 s.d ++ by4 s.e
def sum (l : List Int) : List Int := outb (blks init (padded l))
theorem be8_len (n : BitVec 64) : (be8 n).length = 8 := by simp [be8]
theorem padding_len (n : Nat) : (padding n).length = 9 + zn n := by simp [padding, be8_len]; omega
theorem padded_len (l : List Int) : (padded l).length % 64 = 0 := by
  unfold padded
  rw [List.length_append, padding_len]
  unfold zn
  omega
/-! ### the two codes' functions -/
theorem f_or (b c d : Wd) : (b &&& c ||| ~~~ b &&& d) = (b &&& c) ^^^ (~~~ b &&& d) := by
  ext i hi
  simp
  cases b[i] <;> cases c[i] <;> cases d[i] <;> rfl
theorem f_maj (b c d : Wd) : ((b ||| c) &&& d ||| b &&& c) = (b &&& c) ^^^ (b &&& d) ^^^ (c &&& d) := by
  ext i hi
  simp
  cases b[i] <;> cases c[i] <;> cases d[i] <;> rfl
theorem add_swap (x y z : Wd) : x + y + z = x + z + y := by rw [BitVec.add_assoc, BitVec.add_comm y z, BitVec.add_assoc]
theorem w32_at (s : St) : fv (w32 s.at) 5 = [.int .u32 (s.a.toNat : Int), .int .u32 (s.b.toNat : Int), .int .u32 (s.c.toNat : Int), .int .u32 (s.d.toNat : Int), .int .u32 (s.e.toNat : Int)] := rfl
theorem ints_range' (l : List Int) : (∀ x ∈ l, 0 ≤ x ∧ x ≤ 255) → ∀ i, i < l.length → l[i]? = some ((b8 l i).toNat : Int) := by
  intro h i hi
  have hg := get_some 0 hi
  have hr := h _ (List.mem_of_getElem? hg)
  rw [hg]
  unfold b8
  obtain ⟨a, ha⟩ := Int.eq_ofNat_of_zero_le hr.1
  rw [ha, BitVec.ofInt_natCast, BitVec.toNat_ofNat]
  congr 1
  omega
end Go.Proofs.YtnmelglnkefjfaaGreatDoor.sha
