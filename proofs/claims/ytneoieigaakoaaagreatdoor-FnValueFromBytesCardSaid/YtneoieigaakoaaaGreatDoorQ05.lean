/- The proof of laws.FnValueFromBytes: a value of a kind is read from any bytes as the rules of its kind say, or refused; what is too great is told so. Conditions: those of the given row (the listed variables read as laid). -/
import Derived.Test.YtneoieigaakoaaaGreatDoorQ01
import Derived.ScopeJumps
import Derived.Test.YtneoieigaakoaaaGreatDoorQ02
import Derived.Test.YtneoieigaakoaaaGreatDoorQ04
import Derived.Test.YtneoieigaakoaaaGreatDoorQ03
import Derived.Lib.ValidLaws
import Derived.Shelf.Unicode.DecodeSlow
import Derived.Test.YtneoieigaakoaaaGreatDoorProg
import Derived.Lib.ParseIntB
set_option linter.unusedVariables false
set_option linter.unusedSimpArgs false
section
namespace Go.Proofs.YtneoieigaakoaaaGreatDoor.pf
open Go.Proofs.YtneoieigaakoaaaGreatDoor.fx
open Go.RowKit Go.Proofs.HHW Go.Proofs.YtneoieigaakoaaaGreatDoorW.PrintWords
section
variable {P : Program} {a : Act} {w : World} {Q : Exit → Act → World → Prop}
def jump2 (l1 l0 : Nat) (J1 J0 : Act → World → Prop) (Q : Exit → Act → World → Prop) : Exit → Act → World → Prop
 | .goto l', a, w => (l' = l1 ∧ J1 a w) ∨ (l' = l0 ∧ J0 a w)
 | e, a, w => Q e a w
theorem c_scope2 {c r1 r0 : Code} (l1 l0 : Nat) (J1 J0 : Act → World → Prop) (hf1 : findLabel c l1 = some r1) (hf0 : findLabel c l0 = some r0)
  (p0 : ∀ a w, J0 a w → r0.wp P (Exit.noGoto Q) a w) (p1 : ∀ a w, J1 a w → r1.wp P (Exit.noGoto Q) a w) (first : c.wp P (jump2 l1 l0 J1 J0 Q) a w) : (Code.scope c).wp P Q a w := by
 intro b k cs
 have key : ∀ {l : Nat} {r : Code}, findLabel c l = some r → ∀ a w, r.wp P (Exit.noGoto Q) a w → ∃ e a' w', Q e a' w' ∧ Arrives P (lone (b.at a (.code r :: .inScope c :: k)) cs w) b k cs e a' w' := by
  intro l r hf a w h
  obtain ⟨e, a₁, w₁, hq, harr⟩ := h b (.inScope c :: k) cs
  cases e with
  | normal => exact ⟨.normal, a₁, w₁, hq, Steps.trans harr (.one step_inScope)⟩
  | exit id => exact ⟨.exit id, a₁, w₁, hq, fun k' hk => harr k' (by simp [exitTo, hk])⟩
  | goto l' => exact hq.elim
  | ret => exact ⟨_, a₁, w₁, hq, harr⟩
  | panic ch => exact ⟨_, a₁, w₁, hq, harr⟩
  | outgrown => exact ⟨_, a₁, w₁, hq, harr⟩
 obtain ⟨e, a₁, w₁, hq, harr⟩ := first b (.inScope c :: k) cs
 cases e with
 | normal => exact ⟨.normal, a₁, w₁, hq, .head step_scope (Steps.trans harr (.one step_inScope))⟩
 | exit id => exact ⟨.exit id, a₁, w₁, hq, fun k' hk => .head step_scope (harr k' (by simp [exitTo, hk]))⟩
 | goto l' =>
  rcases hq with ⟨rfl, hJ⟩ | ⟨rfl, hJ⟩
  ·
   have hg : gotoIn l' (.inScope c :: k) = some (.code r1 :: .inScope c :: k) := by simp [gotoIn, hf1]
   obtain ⟨e₂, a₂, w₂, hq₂, harr₂⟩ := key hf1 a₁ w₁ (p1 a₁ w₁ hJ)
   exact ⟨e₂, a₂, w₂, hq₂, .of_steps (.head step_scope (harr _ hg)) harr₂⟩
  ·
   have hg : gotoIn l' (.inScope c :: k) = some (.code r0 :: .inScope c :: k) := by simp [gotoIn, hf0]
   obtain ⟨e₂, a₂, w₂, hq₂, harr₂⟩ := key hf0 a₁ w₁ (p0 a₁ w₁ hJ)
   exact ⟨e₂, a₂, w₂, hq₂, .of_steps (.head step_scope (harr _ hg)) harr₂⟩
 | ret => exact ⟨_, a₁, w₁, hq, .of_steps (.one step_scope) harr⟩
 | panic ch => exact ⟨_, a₁, w₁, hq, .of_steps (.one step_scope) harr⟩
 | outgrown => exact ⟨_, a₁, w₁, hq, .of_steps (.one step_scope) harr⟩
theorem e_then_g {next : Act → World → Prop} {l : Nat} (h : Q (.goto l) a w) : Exit.then next Q (.goto l) a w := h
theorem e_j2_1 {l1 l0 : Nat} {J1 J0 : Act → World → Prop} (h : J1 a w) : jump2 l1 l0 J1 J0 Q (.goto l1) a w := .inl ⟨rfl, h⟩
theorem e_j2_0 {l1 l0 : Nat} {J1 J0 : Act → World → Prop} (h : J0 a w) : jump2 l1 l0 J1 J0 Q (.goto l0) a w := .inr ⟨rfl, h⟩
end
end Go.Proofs.YtneoieigaakoaaaGreatDoor.pf
end
section
namespace Go.Proofs.YtneoieigaakoaaaGreatDoor.pf
open Go.Proofs.YtneoieigaakoaaaGreatDoor.fx
open Go.RowKit Go.Proofs.HHW Go.Proofs.YtneoieigaakoaaaGreatDoorW.PrintWords
namespace d6
theorem ag137 : aggB Tryz.prog 137 = some false := by kernel_rfl
def fbz1 (D : Int → Int) (nd dp : Int) (ng tr : Bool) (bb : BitVec 64) (ov : Bool) (E : Int → Int) (mz : Int) (pz : Int) (tz : Bool) : BitVec 64 × Bool := (bb, ov)
def fbJ1 (D : Int → Int) (nd dp : Int) (ng tr : Bool) (E : Int → Int) (mz : Int) (pz : Int) (tz : Bool) : BitVec 64 × Bool := (bif ng then fbz1 D nd dp ng tr (((0#64 &&& ((1#64 <<< (52 : Nat)) - 1#64)) ||| ((BitVec.ofInt 64 (and11 2047)) <<< (52 : Nat))) ||| ((1#64 <<< (52 : Nat)) <<< (11 : Nat))) true E mz pz tz else fbz1 D nd dp ng tr ((0#64 &&& ((1#64 <<< (52 : Nat)) - 1#64)) ||| ((BitVec.ofInt 64 (and11 2047)) <<< (52 : Nat))) true E mz pz tz)
def fbz0 (D : Int → Int) (nd dp : Int) (ng tr : Bool) (bb : BitVec 64) (ov : Bool) (E : Int → Int) (mz : Int) (pz : Int) (tz : Bool) : BitVec 64 × Bool := (bb, ov)
def fbJ0 (D : Int → Int) (nd dp : Int) (ng tr : Bool) (mm : BitVec 64) (ex : Int) (ov : Bool) (E : Int → Int) (mz : Int) (pz : Int) (tz : Bool) : BitVec 64 × Bool := (bif ng then fbz0 D nd dp ng tr (((mm &&& ((1#64 <<< (52 : Nat)) - 1#64)) ||| ((BitVec.ofInt 64 (and11 (ex - (-1023)))) <<< (52 : Nat))) ||| ((1#64 <<< (52 : Nat)) <<< (11 : Nat))) ov E mz pz tz else fbz0 D nd dp ng tr ((mm &&& ((1#64 <<< (52 : Nat)) - 1#64)) ||| ((BitVec.ofInt 64 (and11 (ex - (-1023)))) <<< (52 : Nat))) ov E mz pz tz)
def fb4 (D : Int → Int) (nd dp : Int) (ng tr : Bool) (ex : Int) (mm : BitVec 64) (E : Int → Int) (mz : Int) (pz : Int) (tz : Bool) : BitVec 64 × Bool := (bif ((((mm &&& (1#64 <<< (52 : Nat)))).toNat : Int) == 0) then fbJ0 D nd dp ng tr mm (-1023) false E mz pz tz else fbJ0 D nd dp ng tr mm ex false E mz pz tz)
def fb3 (D : Int → Int) (nd dp : Int) (ng tr : Bool) (ex : Int) (E : Int → Int) (mz : Int) (pz : Int) (tz : Bool) : BitVec 64 × Bool := (bif (decide ((ex - (-1023)) ≥ 2047)) then fbJ1 D nd dp ng tr E mz pz tz else (bif ((((d1.rin (d5.shf 53 E mz pz tz).1 (d5.shf 53 E mz pz tz).2.1 (d5.shf 53 E mz pz tz).2.2.1 (d5.shf 53 E mz pz tz).2.2.2)).toNat : Int) == (((2#64 <<< (52 : Nat))).toNat : Int)) then (bif (decide (((ex + 1) - (-1023)) ≥ 2047)) then fbJ1 D nd dp ng tr (d5.shf 53 E mz pz tz).1 (d5.shf 53 E mz pz tz).2.1 (d5.shf 53 E mz pz tz).2.2.1 (d5.shf 53 E mz pz tz).2.2.2 else fb4 D nd dp ng tr (ex + 1) ((d1.rin (d5.shf 53 E mz pz tz).1 (d5.shf 53 E mz pz tz).2.1 (d5.shf 53 E mz pz tz).2.2.1 (d5.shf 53 E mz pz tz).2.2.2) >>> (1 : Nat)) (d5.shf 53 E mz pz tz).1 (d5.shf 53 E mz pz tz).2.1 (d5.shf 53 E mz pz tz).2.2.1 (d5.shf 53 E mz pz tz).2.2.2) else fb4 D nd dp ng tr ex (d1.rin (d5.shf 53 E mz pz tz).1 (d5.shf 53 E mz pz tz).2.1 (d5.shf 53 E mz pz tz).2.2.1 (d5.shf 53 E mz pz tz).2.2.2) (d5.shf 53 E mz pz tz).1 (d5.shf 53 E mz pz tz).2.1 (d5.shf 53 E mz pz tz).2.2.1 (d5.shf 53 E mz pz tz).2.2.2))
def fb2 (D : Int → Int) (nd dp : Int) (ng tr : Bool) (ex : Int) (E : Int → Int) (mz : Int) (pz : Int) (tz : Bool) : BitVec 64 × Bool := (bif (decide ((ex - 1) < (-1022))) then fb3 D nd dp ng tr ((ex - 1) + ((-1022) - (ex - 1))) (d5.shf (-((-1022) - (ex - 1))) E mz pz tz).1 (d5.shf (-((-1022) - (ex - 1))) E mz pz tz).2.1 (d5.shf (-((-1022) - (ex - 1))) E mz pz tz).2.2.1 (d5.shf (-((-1022) - (ex - 1))) E mz pz tz).2.2.2 else fb3 D nd dp ng tr (ex - 1) E mz pz tz)
def fbl2 (D : Int → Int) (nd dp : Int) (ng tr : Bool) : Nat → Int → (Int → Int) → Int → Int → Bool → BitVec 64 × Bool
 | 0, _, _, _, _, _ => default
 | fu + 1, ex, E, mz, pz, tz => (bif (decide (pz < 0)) then (bif (decide ((-pz) ≥ ((9 : Nat) : Int))) then fbl2 D nd dp ng tr fu (ex - 27) (d5.shf 27 E mz pz tz).1 (d5.shf 27 E mz pz tz).2.1 (d5.shf 27 E mz pz tz).2.2.1 (d5.shf 27 E mz pz tz).2.2.2 else fbl2 D nd dp ng tr fu (ex - (pwt ((-pz)).toNat)) (d5.shf (pwt ((-pz)).toNat) E mz pz tz).1 (d5.shf (pwt ((-pz)).toNat) E mz pz tz).2.1 (d5.shf (pwt ((-pz)).toNat) E mz pz tz).2.2.1 (d5.shf (pwt ((-pz)).toNat) E mz pz tz).2.2.2) else (bif (pz == 0) then (bif (decide ((E 0) < 53)) then (bif (decide ((-pz) ≥ ((9 : Nat) : Int))) then fbl2 D nd dp ng tr fu (ex - 27) (d5.shf 27 E mz pz tz).1 (d5.shf 27 E mz pz tz).2.1 (d5.shf 27 E mz pz tz).2.2.1 (d5.shf 27 E mz pz tz).2.2.2 else fbl2 D nd dp ng tr fu (ex - (pwt ((-pz)).toNat)) (d5.shf (pwt ((-pz)).toNat) E mz pz tz).1 (d5.shf (pwt ((-pz)).toNat) E mz pz tz).2.1 (d5.shf (pwt ((-pz)).toNat) E mz pz tz).2.2.1 (d5.shf (pwt ((-pz)).toNat) E mz pz tz).2.2.2) else fb2 D nd dp ng tr ex E mz pz tz) else fb2 D nd dp ng tr ex E mz pz tz))
def fb1 (D : Int → Int) (nd dp : Int) (ng tr : Bool) (ex : Int) (E : Int → Int) (mz : Int) (pz : Int) (tz : Bool) : BitVec 64 × Bool := fbl2 D nd dp ng tr (((20 * 400 - (20 * pz + E 0)).toNat) + 1) ex E mz pz tz
def fbl1 (D : Int → Int) (nd dp : Int) (ng tr : Bool) : Nat → Int → (Int → Int) → Int → Int → Bool → BitVec 64 × Bool
 | 0, _, _, _, _, _ => default
 | fu + 1, ex, E, mz, pz, tz => (bif (decide (pz > 0)) then (bif (decide (pz ≥ ((9 : Nat) : Int))) then fbl1 D nd dp ng tr fu (ex + 27) (d5.shf (-27) E mz pz tz).1 (d5.shf (-27) E mz pz tz).2.1 (d5.shf (-27) E mz pz tz).2.2.1 (d5.shf (-27) E mz pz tz).2.2.2 else fbl1 D nd dp ng tr fu (ex + (pwt (pz).toNat)) (d5.shf (-(pwt (pz).toNat)) E mz pz tz).1 (d5.shf (-(pwt (pz).toNat)) E mz pz tz).2.1 (d5.shf (-(pwt (pz).toNat)) E mz pz tz).2.2.1 (d5.shf (-(pwt (pz).toNat)) E mz pz tz).2.2.2) else fb1 D nd dp ng tr ex E mz pz tz)
def fbt (D : Int → Int) (nd dp : Int) (ng tr : Bool) : BitVec 64 × Bool := (bif (nd == 0) then fbJ0 D nd dp ng tr (0#64) (-1023) false D nd dp tr else (bif (decide (dp > 310)) then fbJ1 D nd dp ng tr D nd dp tr else (bif (decide (dp < (-330))) then fbJ0 D nd dp ng tr (0#64) (-1023) false D nd dp tr else fbl1 D nd dp ng tr (((20 * dp + D 0 + 700000).toNat) + 1) 0 D nd dp tr)))
set_option maxHeartbeats 2000000 in
theorem fbt_ (wb w0 : World) (B : Nat) (L0 : List (Nat × Obj)) (hW : PW 8 9 7 12 11 14 B wb) (hL : PL 14 B wb) (gd : Nat) (D : Int → Int) (nd dp : Int) (ng tr : Bool) (hN : 0 ≤ nd ∧ nd ≤ 800) (hg : Dg D nd) (hp : -10000000 ≤ dp ∧ dp ≤ 10000000) (H : HH B wb w0 ((gd, .cells (decC D nd dp ng tr) 113 (0, 0)) :: L0)) : Calls Tryz.prog 60 #[.pointer (some ⟨gd, 0, none⟩), .pointer (some ⟨9, 0, none⟩)] w0 fun e w' => e = .returned (.tuple #[.int .u64 ((fbt D nd dp ng tr).1.toNat : Int), .bool (fbt D nd dp ng tr).2]) ∧ HH B wb w' L0 := by
 generalize hR : fbt D nd dp ng tr = R
 refine c_enter (args := [.pointer (some ⟨gd, 0, none⟩), .pointer (some ⟨9, 0, none⟩)]) (k := 241) Tryz.func60 rfl rfl rfl (fun a S => ?_)
 refine wp_seq ?_
 refine c_region ?_
 refine l_mv 2 S rfl ?_; clear S a; intro a S
 refine l_nil ?_
 refine e_then ?_
 refine c_scope2 1 0 (fun a w => ∃ E : Int → Int, ∃ mz : Int, ∃ pz : Int, ∃ tz : Bool, SL a 243 [] [(0, .pointer (some ⟨gd, 0, none⟩)), (1, .pointer (some ⟨9, 0, none⟩))] ∧ HH B wb w ((gd, .cells (decC E mz pz ng tz) 113 (0, 0)) :: L0) ∧ fbJ1 D nd dp ng tr E mz pz tz = R) (fun a w => ∃ mm : BitVec 64, ∃ ex : Int, ∃ ov : Bool, ∃ E : Int → Int, ∃ mz : Int, ∃ pz : Int, ∃ tz : Bool, SL a 243 [] [(0, .pointer (some ⟨gd, 0, none⟩)), (1, .pointer (some ⟨9, 0, none⟩)), (7, .int .u64 (mm.toNat : Int)), (6, .int .i64 ex), (5, .bool ov)] ∧ HH B wb w ((gd, .cells (decC E mz pz ng tz) 113 (0, 0)) :: L0) ∧ fbJ0 D nd dp ng tr mm ex ov E mz pz tz = R ∧ (-100000000 ≤ ex ∧ ex ≤ 100000000)) rfl rfl ?_ ?_ ?_
 ·
  clear S a H hR; rintro a w ⟨mm, ex, ov, E, mz, pz, tz, S, H, hR, hinv⟩
  have hx := hinv
  refine wp_seq ?_
  refine wp_skip ?_
  refine e_then ?_
  refine wp_seq ?_
  refine c_region ?_
  refine l_mv 3 S rfl ?_; clear S a; intro a S
  refine l_pure S (p_fieldAddr rfl (fun w => fa103_0 w _ _)) rfl rfl rfl ?_; clear S a; intro a S
  refine l_read S H (r_loadG rfl hW.inf.1 hW.inf.2.2.2 ag87) rfl rfl rfl ?_; clear S a; intro a S
  refine l_pure S (p_shl rfl rfl (by decide) (shl64 1#64 (n := (52 : Nat)) rfl (by decide))) rfl rfl rfl ?_; clear S a; intro a S
  refine l_pure S (p_sub rfl rfl (sub64 (1#64 <<< (52 : Nat)) 1#64)) rfl rfl rfl ?_; clear S a; intro a S
  refine l_pure S (p_and rfl rfl (and64 mm ((1#64 <<< (52 : Nat)) - 1#64))) rfl rfl rfl ?_; clear S a; intro a S
  refine l_mv 1 S rfl ?_; clear S a; intro a S
  refine l_nil ?_
  refine e_then ?_
  refine wp_seq ?_
  refine d_start (id := 43) [] 22 #[false, false, false, false, false, false, false, false, false, false, false, false, false, false, false, false, false, false, false, false, false, false] H rfl rfl rfl (fun w H => ?_)
  refine d_mv [0, 1, 2, 3, 7, 8, 15, 16] #[true, true, true, true, false, false, false, true, true, false, false, false, false, false, false, true, true, false, false, false, false, false] S rfl (by kernel_rfl) (fun _ _ _ _ _ h => h) ?_; clear S a; intro a S
  refine d_pure (i := 4) #[true, true, true, true, true, false, false, true, true, false, false, false, false, false, false, true, true, false, false, false, false, false] S rfl (p_fieldAddr rfl (fun w => fa103_2 w _ _)) (wanted_none rfl) rfl rfl (by kernel_rfl) (fun _ _ _ h => h) ?_; clear S a; intro a S
  refine d_read (i := 5) #[true, true, true, true, true, true, false, true, true, false, false, false, false, false, false, true, true, false, false, false, false, false] S H rfl (r_loadG rfl hW.inf.2.2.1 hW.inf.2.2.2 ag3) (wanted_none rfl) rfl rfl (by kernel_rfl) (fun _ _ _ h => h) ?_; clear S a; intro a S
  refine d_pure (i := 6) #[true, true, true, true, true, true, true, true, true, false, false, false, false, false, false, true, true, false, false, false, false, false] S rfl (p_sub (r := (ex - (-1023))) rfl rfl (IntWalk.i64_in _ (by omega))) (wanted_none rfl) rfl rfl (by kernel_rfl) (fun _ _ _ h => h) ?_; clear S a; intro a S
  refine d_pure (i := 9) #[true, true, true, true, true, true, true, true, true, true, false, false, false, false, false, true, true, false, false, false, false, false] S rfl (p_fieldAddr rfl (fun w => fa103_1 w _ _)) (wanted_none rfl) rfl rfl (by kernel_rfl) (fun _ _ _ h => h) ?_; clear S a; intro a S
  refine d_read (i := 10) #[true, true, true, true, true, true, true, true, true, true, true, false, false, false, false, true, true, false, false, false, false, false] S H rfl (r_loadG rfl hW.inf.2.1 hW.inf.2.2.2 ag87) (wanted_none rfl) rfl rfl (by kernel_rfl) (fun _ _ _ h => h) ?_; clear S a; intro a S
  refine d_pure (i := 11) #[true, true, true, true, true, true, true, true, true, true, true, true, false, false, false, true, true, false, false, false, false, false] S rfl (p_shl (r := 2048) rfl rfl (by decide) (by decide)) (wanted_none rfl) rfl rfl (by kernel_rfl) (fun _ _ _ h => h) ?_; clear S a; intro a S
  refine d_pure (i := 12) #[true, true, true, true, true, true, true, true, true, true, true, true, true, false, false, true, true, false, false, false, false, false] S rfl (p_sub (r := 2047) rfl rfl (by decide)) (wanted_none rfl) rfl rfl (by kernel_rfl) (fun _ _ _ h => h) ?_; clear S a; intro a S
  refine d_pure (i := 13) #[true, true, true, true, true, true, true, true, true, true, true, true, true, true, false, true, true, false, false, false, false, false] S rfl (p_and (r := and11 (ex - (-1023))) rfl rfl rfl) (wanted_none rfl) rfl rfl (by kernel_rfl) (fun _ _ _ h => h) ?_; clear S a; intro a S
  refine d_pure (i := 14) #[true, true, true, true, true, true, true, true, true, true, true, true, true, true, true, true, true, false, false, false, false, false] S rfl (p_conv rfl (fun w => cv_int (Tryz.underlying3) (Tryz.underlying22) (fz.ofI64 (and11 (ex - (-1023)))))) (wanted_none rfl) rfl rfl (by kernel_rfl) (fun _ _ _ h => h) ?_; clear S a; intro a S
  refine d_pure (i := 17) #[true, true, true, true, true, true, true, true, true, true, true, true, true, true, true, true, true, true, false, false, false, false] S rfl (p_fieldAddr rfl (fun w => fa103_0 w _ _)) (wanted_none rfl) rfl rfl (by kernel_rfl) (fun _ _ _ h => h) ?_; clear S a; intro a S
  refine d_read (i := 18) #[true, true, true, true, true, true, true, true, true, true, true, true, true, true, true, true, true, true, true, false, false, false] S H rfl (r_loadG rfl hW.inf.1 hW.inf.2.2.2 ag87) (wanted_none rfl) rfl rfl (by kernel_rfl) (fun _ _ _ h => h) ?_; clear S a; intro a S
  refine d_pure (i := 19) #[true, true, true, true, true, true, true, true, true, true, true, true, true, true, true, true, true, true, true, true, false, false] S rfl (p_shl rfl rfl (by decide) (shl64 (BitVec.ofInt 64 (and11 (ex - (-1023)))) (n := (52 : Nat)) rfl (by decide))) (wanted_none rfl) rfl rfl (by kernel_rfl) (fun _ _ _ h => h) ?_; clear S a; intro a S
  refine d_pure (i := 20) #[true, true, true, true, true, true, true, true, true, true, true, true, true, true, true, true, true, true, true, true, true, false] S rfl (p_or rfl rfl (or64 (mm &&& ((1#64 <<< (52 : Nat)) - 1#64)) ((BitVec.ofInt 64 (and11 (ex - (-1023)))) <<< (52 : Nat)))) (wanted_none rfl) rfl rfl (by kernel_rfl) (fun _ _ _ h => h) ?_; clear S a; intro a S
  refine d_mv [21] #[true, true, true, true, true, true, true, true, true, true, true, true, true, true, true, true, true, true, true, true, true, true] S rfl (by kernel_rfl) (fun _ _ _ _ _ h => h) ?_; clear S a; intro a S
  refine d_done (by kernel_rfl) ?_
  refine e_then ?_
  refine c_cut (fun a w => ∃ bb : BitVec 64, ∃ ov : Bool, ∃ E : Int → Int, ∃ mz : Int, ∃ pz : Int, ∃ tz : Bool, SL a 243 [] [(0, .pointer (some ⟨gd, 0, none⟩)), (1, .pointer (some ⟨9, 0, none⟩)), (11, .int .u64 (bb.toNat : Int)), (5, .bool ov)] ∧ HH B wb w ((gd, .cells (decC E mz pz ng tz) 113 (0, 0)) :: L0) ∧ fbz0 D nd dp ng tr bb ov E mz pz tz = R) ?_ ?_
  ·
   clear S a H hR; rintro a w ⟨bb, ov, E, mz, pz, tz, S, H, hR⟩
   refine wp_seq ?_
   refine c_region ?_
   refine l_mv 4 S rfl ?_; clear S a; intro a S
   refine l_nil ?_
   refine e_then ?_
   refine wp_ret ?_
   refine e_sc_ret ?_
   have eR : R = (bb, ov) := by rw [← hR]; simp only [fbz0, cond_true, cond_false]
   clear hR; subst eR
   exact r_ret2 S rfl rfl rfl ⟨rfl, H.tail⟩
  ·
   refine wp_seq ?_
   refine c_region ?_
   refine l_mv 2 S rfl ?_; clear S a; intro a S
   refine l_pure S (p_fieldAddr rfl (fun w => fa113_3 w _ _)) rfl rfl rfl ?_; clear S a; intro a S
   refine l_read S H (r_load rfl List.mem_cons_self (show _ = some (.bool ng) from dec_ng) (fun w hc => ld1 ag4 hc)) rfl rfl rfl ?_; clear S a; intro a S
   refine l_nil ?_
   refine e_then ?_
   refine c_cond S rfl (fun bc4 => ?_) (fun bc4 => ?_)
   ·
    have c4 := bc4
    refine d_start (id := 45) [] 13 #[false, false, false, false, false, false, false, false, false, false, false, false, false] H rfl rfl rfl (fun w H => ?_)
    refine d_mv [0, 1, 2, 6, 7] #[true, true, true, false, false, false, true, true, false, false, false, false, false] S rfl (by kernel_rfl) (fun _ _ _ _ _ h => h) ?_; clear S a; intro a S
    refine d_pure (i := 3) #[true, true, true, true, false, false, true, true, false, false, false, false, false] S rfl (p_fieldAddr rfl (fun w => fa103_0 w _ _)) (wanted_none rfl) rfl rfl (by kernel_rfl) (fun _ _ _ h => h) ?_; clear S a; intro a S
    refine d_read (i := 4) #[true, true, true, true, true, false, true, true, false, false, false, false, false] S H rfl (r_loadG rfl hW.inf.1 hW.inf.2.2.2 ag87) (wanted_none rfl) rfl rfl (by kernel_rfl) (fun _ _ _ h => h) ?_; clear S a; intro a S
    refine d_pure (i := 5) #[true, true, true, true, true, true, true, true, false, false, false, false, false] S rfl (p_shl rfl rfl (by decide) (shl64 1#64 (n := (52 : Nat)) rfl (by decide))) (wanted_none rfl) rfl rfl (by kernel_rfl) (fun _ _ _ h => h) ?_; clear S a; intro a S
    refine d_pure (i := 8) #[true, true, true, true, true, true, true, true, true, false, false, false, false] S rfl (p_fieldAddr rfl (fun w => fa103_1 w _ _)) (wanted_none rfl) rfl rfl (by kernel_rfl) (fun _ _ _ h => h) ?_; clear S a; intro a S
    refine d_read (i := 9) #[true, true, true, true, true, true, true, true, true, true, false, false, false] S H rfl (r_loadG rfl hW.inf.2.1 hW.inf.2.2.2 ag87) (wanted_none rfl) rfl rfl (by kernel_rfl) (fun _ _ _ h => h) ?_; clear S a; intro a S
    refine d_pure (i := 10) #[true, true, true, true, true, true, true, true, true, true, true, false, false] S rfl (p_shl rfl rfl (by decide) (shl64 (1#64 <<< (52 : Nat)) (n := (11 : Nat)) rfl (by decide))) (wanted_none rfl) rfl rfl (by kernel_rfl) (fun _ _ _ h => h) ?_; clear S a; intro a S
    refine d_pure (i := 11) #[true, true, true, true, true, true, true, true, true, true, true, true, false] S rfl (p_or rfl rfl (or64 ((mm &&& ((1#64 <<< (52 : Nat)) - 1#64)) ||| ((BitVec.ofInt 64 (and11 (ex - (-1023)))) <<< (52 : Nat))) ((1#64 <<< (52 : Nat)) <<< (11 : Nat)))) (wanted_none rfl) rfl rfl (by kernel_rfl) (fun _ _ _ h => h) ?_; clear S a; intro a S
    refine d_mv [12] #[true, true, true, true, true, true, true, true, true, true, true, true, true] S rfl (by kernel_rfl) (fun _ _ _ _ _ h => h) ?_; clear S a; intro a S
    refine d_done (by kernel_rfl) ?_
    refine e_then ?_
    exact ⟨(((mm &&& ((1#64 <<< (52 : Nat)) - 1#64)) ||| ((BitVec.ofInt 64 (and11 (ex - (-1023)))) <<< (52 : Nat))) ||| ((1#64 <<< (52 : Nat)) <<< (11 : Nat))), ov, E, mz, pz, tz, S.only ⟨rfl, rfl, rfl, rfl, trivial⟩, H, by rw [← hR]; simp only [fbJ0, bc4, cond_true, cond_false]⟩
   ·
    have c4 := bc4
    refine wp_skip ?_
    refine e_then ?_
    exact ⟨((mm &&& ((1#64 <<< (52 : Nat)) - 1#64)) ||| ((BitVec.ofInt 64 (and11 (ex - (-1023)))) <<< (52 : Nat))), ov, E, mz, pz, tz, S.only ⟨rfl, rfl, rfl, rfl, trivial⟩, H, by rw [← hR]; simp only [fbJ0, bc4, cond_true, cond_false]⟩
 ·
  clear S a H hR; rintro a w ⟨E, mz, pz, tz, S, H, hR⟩
  refine wp_seq ?_
  refine wp_skip ?_
  refine e_then ?_
  refine wp_seq ?_
  refine c_region ?_
  refine l_mv 1 S rfl ?_; clear S a; intro a S
  refine l_nil ?_
  refine e_then ?_
  refine wp_seq ?_
  refine d_start (id := 40) [] 12 #[false, false, false, false, false, false, false, false, false, false, false, false] H rfl rfl rfl (fun w H => ?_)
  refine d_mv [0, 1, 6, 7] #[true, true, false, false, false, false, true, true, false, false, false, false] S rfl (by kernel_rfl) (fun _ _ _ _ _ h => h) ?_; clear S a; intro a S
  refine d_pure (i := 2) #[true, true, true, false, false, false, true, true, false, false, false, false] S rfl (p_fieldAddr rfl (fun w => fa103_1 w _ _)) (wanted_none rfl) rfl rfl (by kernel_rfl) (fun _ _ _ h => h) ?_; clear S a; intro a S
  refine d_read (i := 3) #[true, true, true, true, false, false, true, true, false, false, false, false] S H rfl (r_loadG rfl hW.inf.2.1 hW.inf.2.2.2 ag87) (wanted_none rfl) rfl rfl (by kernel_rfl) (fun _ _ _ h => h) ?_; clear S a; intro a S
  refine d_pure (i := 4) #[true, true, true, true, true, false, true, true, false, false, false, false] S rfl (p_shl (r := 2048) rfl rfl (by decide) (by decide)) (wanted_none rfl) rfl rfl (by kernel_rfl) (fun _ _ _ h => h) ?_; clear S a; intro a S
  refine d_pure (i := 5) #[true, true, true, true, true, true, true, true, false, false, false, false] S rfl (p_sub (r := 2047) rfl rfl (by decide)) (wanted_none rfl) rfl rfl (by kernel_rfl) (fun _ _ _ h => h) ?_; clear S a; intro a S
  refine d_pure (i := 8) #[true, true, true, true, true, true, true, true, true, false, false, false] S rfl (p_fieldAddr rfl (fun w => fa103_2 w _ _)) (wanted_none rfl) rfl rfl (by kernel_rfl) (fun _ _ _ h => h) ?_; clear S a; intro a S
  refine d_read (i := 9) #[true, true, true, true, true, true, true, true, true, true, false, false] S H rfl (r_loadG rfl hW.inf.2.2.1 hW.inf.2.2.2 ag3) (wanted_none rfl) rfl rfl (by kernel_rfl) (fun _ _ _ h => h) ?_; clear S a; intro a S
  refine d_pure (i := 10) #[true, true, true, true, true, true, true, true, true, true, true, false] S rfl (p_add (r := 1024) rfl rfl (by decide)) (wanted_none rfl) rfl rfl (by kernel_rfl) (fun _ _ _ h => h) ?_; clear S a; intro a S
  refine d_mv [11] #[true, true, true, true, true, true, true, true, true, true, true, true] S rfl (by kernel_rfl) (fun _ _ _ _ _ h => h) ?_; clear S a; intro a S
  refine d_done (by kernel_rfl) ?_
  refine e_then ?_
  refine wp_seq ?_
  refine c_region ?_
  refine l_mv 1 S rfl ?_; clear S a; intro a S
  refine l_nil ?_
  refine e_then ?_
  refine wp_seq ?_
  refine c_label ?_
  refine e_then ?_
  refine wp_seq ?_
  refine c_region ?_
  refine l_mv 3 S rfl ?_; clear S a; intro a S
  refine l_pure S (p_fieldAddr rfl (fun w => fa103_0 w _ _)) rfl rfl rfl ?_; clear S a; intro a S
  refine l_read S H (r_loadG rfl hW.inf.1 hW.inf.2.2.2 ag87) rfl rfl rfl ?_; clear S a; intro a S
  refine l_pure S (p_shl rfl rfl (by decide) (shl64 1#64 (n := (52 : Nat)) rfl (by decide))) rfl rfl rfl ?_; clear S a; intro a S
  refine l_pure S (p_sub rfl rfl (sub64 (1#64 <<< (52 : Nat)) 1#64)) rfl rfl rfl ?_; clear S a; intro a S
  refine l_pure S (p_and rfl rfl (and64 0#64 ((1#64 <<< (52 : Nat)) - 1#64))) rfl rfl rfl ?_; clear S a; intro a S
  refine l_mv 1 S rfl ?_; clear S a; intro a S
  refine l_nil ?_
  refine e_then ?_
  refine wp_seq ?_
  refine d_start (id := 43) [] 22 #[false, false, false, false, false, false, false, false, false, false, false, false, false, false, false, false, false, false, false, false, false, false] H rfl rfl rfl (fun w H => ?_)
  refine d_mv [0, 1, 2, 3, 7, 8, 15, 16] #[true, true, true, true, false, false, false, true, true, false, false, false, false, false, false, true, true, false, false, false, false, false] S rfl (by kernel_rfl) (fun _ _ _ _ _ h => h) ?_; clear S a; intro a S
  refine d_pure (i := 4) #[true, true, true, true, true, false, false, true, true, false, false, false, false, false, false, true, true, false, false, false, false, false] S rfl (p_fieldAddr rfl (fun w => fa103_2 w _ _)) (wanted_none rfl) rfl rfl (by kernel_rfl) (fun _ _ _ h => h) ?_; clear S a; intro a S
  refine d_read (i := 5) #[true, true, true, true, true, true, false, true, true, false, false, false, false, false, false, true, true, false, false, false, false, false] S H rfl (r_loadG rfl hW.inf.2.2.1 hW.inf.2.2.2 ag3) (wanted_none rfl) rfl rfl (by kernel_rfl) (fun _ _ _ h => h) ?_; clear S a; intro a S
  refine d_pure (i := 6) #[true, true, true, true, true, true, true, true, true, false, false, false, false, false, false, true, true, false, false, false, false, false] S rfl (p_sub (r := 2047) rfl rfl (by decide)) (wanted_none rfl) rfl rfl (by kernel_rfl) (fun _ _ _ h => h) ?_; clear S a; intro a S
  refine d_pure (i := 9) #[true, true, true, true, true, true, true, true, true, true, false, false, false, false, false, true, true, false, false, false, false, false] S rfl (p_fieldAddr rfl (fun w => fa103_1 w _ _)) (wanted_none rfl) rfl rfl (by kernel_rfl) (fun _ _ _ h => h) ?_; clear S a; intro a S
  refine d_read (i := 10) #[true, true, true, true, true, true, true, true, true, true, true, false, false, false, false, true, true, false, false, false, false, false] S H rfl (r_loadG rfl hW.inf.2.1 hW.inf.2.2.2 ag87) (wanted_none rfl) rfl rfl (by kernel_rfl) (fun _ _ _ h => h) ?_; clear S a; intro a S
  refine d_pure (i := 11) #[true, true, true, true, true, true, true, true, true, true, true, true, false, false, false, true, true, false, false, false, false, false] S rfl (p_shl (r := 2048) rfl rfl (by decide) (by decide)) (wanted_none rfl) rfl rfl (by kernel_rfl) (fun _ _ _ h => h) ?_; clear S a; intro a S
  refine d_pure (i := 12) #[true, true, true, true, true, true, true, true, true, true, true, true, true, false, false, true, true, false, false, false, false, false] S rfl (p_sub (r := 2047) rfl rfl (by decide)) (wanted_none rfl) rfl rfl (by kernel_rfl) (fun _ _ _ h => h) ?_; clear S a; intro a S
  refine d_pure (i := 13) #[true, true, true, true, true, true, true, true, true, true, true, true, true, true, false, true, true, false, false, false, false, false] S rfl (p_and (r := and11 2047) rfl rfl rfl) (wanted_none rfl) rfl rfl (by kernel_rfl) (fun _ _ _ h => h) ?_; clear S a; intro a S
  refine d_pure (i := 14) #[true, true, true, true, true, true, true, true, true, true, true, true, true, true, true, true, true, false, false, false, false, false] S rfl (p_conv rfl (fun w => cv_int (Tryz.underlying3) (Tryz.underlying22) (fz.ofI64 (and11 2047)))) (wanted_none rfl) rfl rfl (by kernel_rfl) (fun _ _ _ h => h) ?_; clear S a; intro a S
  refine d_pure (i := 17) #[true, true, true, true, true, true, true, true, true, true, true, true, true, true, true, true, true, true, false, false, false, false] S rfl (p_fieldAddr rfl (fun w => fa103_0 w _ _)) (wanted_none rfl) rfl rfl (by kernel_rfl) (fun _ _ _ h => h) ?_; clear S a; intro a S
  refine d_read (i := 18) #[true, true, true, true, true, true, true, true, true, true, true, true, true, true, true, true, true, true, true, false, false, false] S H rfl (r_loadG rfl hW.inf.1 hW.inf.2.2.2 ag87) (wanted_none rfl) rfl rfl (by kernel_rfl) (fun _ _ _ h => h) ?_; clear S a; intro a S
  refine d_pure (i := 19) #[true, true, true, true, true, true, true, true, true, true, true, true, true, true, true, true, true, true, true, true, false, false] S rfl (p_shl rfl rfl (by decide) (shl64 (BitVec.ofInt 64 (and11 2047)) (n := (52 : Nat)) rfl (by decide))) (wanted_none rfl) rfl rfl (by kernel_rfl) (fun _ _ _ h => h) ?_; clear S a; intro a S
  refine d_pure (i := 20) #[true, true, true, true, true, true, true, true, true, true, true, true, true, true, true, true, true, true, true, true, true, false] S rfl (p_or rfl rfl (or64 (0#64 &&& ((1#64 <<< (52 : Nat)) - 1#64)) ((BitVec.ofInt 64 (and11 2047)) <<< (52 : Nat)))) (wanted_none rfl) rfl rfl (by kernel_rfl) (fun _ _ _ h => h) ?_; clear S a; intro a S
  refine d_mv [21] #[true, true, true, true, true, true, true, true, true, true, true, true, true, true, true, true, true, true, true, true, true, true] S rfl (by kernel_rfl) (fun _ _ _ _ _ h => h) ?_; clear S a; intro a S
  refine d_done (by kernel_rfl) ?_
  refine e_then ?_
  refine c_cut (fun a w => ∃ bb : BitVec 64, ∃ ov : Bool, ∃ E : Int → Int, ∃ mz : Int, ∃ pz : Int, ∃ tz : Bool, SL a 243 [] [(0, .pointer (some ⟨gd, 0, none⟩)), (1, .pointer (some ⟨9, 0, none⟩)), (11, .int .u64 (bb.toNat : Int)), (5, .bool ov)] ∧ HH B wb w ((gd, .cells (decC E mz pz ng tz) 113 (0, 0)) :: L0) ∧ fbz1 D nd dp ng tr bb ov E mz pz tz = R) ?_ ?_
  ·
   clear S a H hR; rintro a w ⟨bb, ov, E, mz, pz, tz, S, H, hR⟩
   refine wp_seq ?_
   refine c_region ?_
   refine l_mv 4 S rfl ?_; clear S a; intro a S
   refine l_nil ?_
   refine e_then ?_
   refine wp_ret ?_
   refine e_sc_ret ?_
   have eR : R = (bb, ov) := by rw [← hR]; simp only [fbz1, cond_true, cond_false]
   clear hR; subst eR
   exact r_ret2 S rfl rfl rfl ⟨rfl, H.tail⟩
  ·
   refine wp_seq ?_
   refine c_region ?_
   refine l_mv 2 S rfl ?_; clear S a; intro a S
   refine l_pure S (p_fieldAddr rfl (fun w => fa113_3 w _ _)) rfl rfl rfl ?_; clear S a; intro a S
   refine l_read S H (r_load rfl List.mem_cons_self (show _ = some (.bool ng) from dec_ng) (fun w hc => ld1 ag4 hc)) rfl rfl rfl ?_; clear S a; intro a S
   refine l_nil ?_
   refine e_then ?_
   refine c_cond S rfl (fun bc8 => ?_) (fun bc8 => ?_)
   ·
    have c8 := bc8
    refine d_start (id := 45) [] 13 #[false, false, false, false, false, false, false, false, false, false, false, false, false] H rfl rfl rfl (fun w H => ?_)
    refine d_mv [0, 1, 2, 6, 7] #[true, true, true, false, false, false, true, true, false, false, false, false, false] S rfl (by kernel_rfl) (fun _ _ _ _ _ h => h) ?_; clear S a; intro a S
    refine d_pure (i := 3) #[true, true, true, true, false, false, true, true, false, false, false, false, false] S rfl (p_fieldAddr rfl (fun w => fa103_0 w _ _)) (wanted_none rfl) rfl rfl (by kernel_rfl) (fun _ _ _ h => h) ?_; clear S a; intro a S
    refine d_read (i := 4) #[true, true, true, true, true, false, true, true, false, false, false, false, false] S H rfl (r_loadG rfl hW.inf.1 hW.inf.2.2.2 ag87) (wanted_none rfl) rfl rfl (by kernel_rfl) (fun _ _ _ h => h) ?_; clear S a; intro a S
    refine d_pure (i := 5) #[true, true, true, true, true, true, true, true, false, false, false, false, false] S rfl (p_shl rfl rfl (by decide) (shl64 1#64 (n := (52 : Nat)) rfl (by decide))) (wanted_none rfl) rfl rfl (by kernel_rfl) (fun _ _ _ h => h) ?_; clear S a; intro a S
    refine d_pure (i := 8) #[true, true, true, true, true, true, true, true, true, false, false, false, false] S rfl (p_fieldAddr rfl (fun w => fa103_1 w _ _)) (wanted_none rfl) rfl rfl (by kernel_rfl) (fun _ _ _ h => h) ?_; clear S a; intro a S
    refine d_read (i := 9) #[true, true, true, true, true, true, true, true, true, true, false, false, false] S H rfl (r_loadG rfl hW.inf.2.1 hW.inf.2.2.2 ag87) (wanted_none rfl) rfl rfl (by kernel_rfl) (fun _ _ _ h => h) ?_; clear S a; intro a S
    refine d_pure (i := 10) #[true, true, true, true, true, true, true, true, true, true, true, false, false] S rfl (p_shl rfl rfl (by decide) (shl64 (1#64 <<< (52 : Nat)) (n := (11 : Nat)) rfl (by decide))) (wanted_none rfl) rfl rfl (by kernel_rfl) (fun _ _ _ h => h) ?_; clear S a; intro a S
    refine d_pure (i := 11) #[true, true, true, true, true, true, true, true, true, true, true, true, false] S rfl (p_or rfl rfl (or64 ((0#64 &&& ((1#64 <<< (52 : Nat)) - 1#64)) ||| ((BitVec.ofInt 64 (and11 2047)) <<< (52 : Nat))) ((1#64 <<< (52 : Nat)) <<< (11 : Nat)))) (wanted_none rfl) rfl rfl (by kernel_rfl) (fun _ _ _ h => h) ?_; clear S a; intro a S
    refine d_mv [12] #[true, true, true, true, true, true, true, true, true, true, true, true, true] S rfl (by kernel_rfl) (fun _ _ _ _ _ h => h) ?_; clear S a; intro a S
    refine d_done (by kernel_rfl) ?_
    refine e_then ?_
    exact ⟨(((0#64 &&& ((1#64 <<< (52 : Nat)) - 1#64)) ||| ((BitVec.ofInt 64 (and11 2047)) <<< (52 : Nat))) ||| ((1#64 <<< (52 : Nat)) <<< (11 : Nat))), true, E, mz, pz, tz, S.only ⟨rfl, rfl, rfl, rfl, trivial⟩, H, by rw [← hR]; simp only [fbJ1, bc8, cond_true, cond_false]⟩
   ·
    have c8 := bc8
    refine wp_skip ?_
    refine e_then ?_
    exact ⟨((0#64 &&& ((1#64 <<< (52 : Nat)) - 1#64)) ||| ((BitVec.ofInt 64 (and11 2047)) <<< (52 : Nat))), true, E, mz, pz, tz, S.only ⟨rfl, rfl, rfl, rfl, trivial⟩, H, by rw [← hR]; simp only [fbJ1, bc8, cond_true, cond_false]⟩
 ·
  refine wp_seq ?_
  refine c_region ?_
  refine l_mv 1 S rfl ?_; clear S a; intro a S
  refine l_nil ?_
  refine e_then ?_
  refine wp_seq ?_
  refine c_region ?_
  refine l_mv 1 S rfl ?_; clear S a; intro a S
  refine l_nil ?_
  refine e_then ?_
  refine wp_seq ?_
  refine wp_seq ?_
  refine c_region ?_
  refine l_mv 2 S rfl ?_; clear S a; intro a S
  refine l_pure S (p_fieldAddr rfl (fun w => fa113_1 w _ _)) rfl rfl rfl ?_; clear S a; intro a S
  refine l_read S H (r_load rfl List.mem_cons_self (show _ = some (.int .i64 nd) from dec_nd) (fun w hc => ld1 ag3 hc)) rfl rfl rfl ?_; clear S a; intro a S
  refine l_pure S (p_eql rfl rfl) rfl rfl rfl ?_; clear S a; intro a S
  refine l_nil ?_
  refine e_then ?_
  refine c_cond S rfl (fun bc10 => ?_) (fun bc10 => ?_)
  ·
   have c10 := bc10
   have c10 := eq_of_beq c10
   refine wp_seq ?_
   refine c_region ?_
   refine l_mv 1 S rfl ?_; clear S a; intro a S
   refine l_nil ?_
   refine e_then ?_
   refine wp_seq ?_
   refine c_region ?_
   refine l_mv 2 S rfl ?_; clear S a; intro a S
   refine l_pure S (p_fieldAddr rfl (fun w => fa103_2 w _ _)) rfl rfl rfl ?_; clear S a; intro a S
   refine l_read S H (r_loadG rfl hW.inf.2.2.1 hW.inf.2.2.2 ag3) rfl rfl rfl ?_; clear S a; intro a S
   refine l_mv 1 S rfl ?_; clear S a; intro a S
   refine l_nil ?_
   refine e_then ?_
   refine wp_goto ?_
   refine e_then_g ?_
   refine e_j2_0 ?_
   exact ⟨(0#64), (-1023), false, D, nd, dp, tr, S.only ⟨rfl, rfl, rfl, rfl, rfl, trivial⟩, H, by rw [← hR]; simp only [fbt, bc10, cond_true, cond_false], by omega⟩
  ·
   have c10 := bc10
   have c10 := ne_of_beq_false c10
   refine wp_skip ?_
   refine e_then ?_
   refine wp_seq ?_
   refine wp_seq ?_
   refine c_region ?_
   refine l_mv 2 S rfl ?_; clear S a; intro a S
   refine l_pure S (p_fieldAddr rfl (fun w => fa113_2 w _ _)) rfl rfl rfl ?_; clear S a; intro a S
   refine l_read S H (r_load rfl List.mem_cons_self (show _ = some (.int .i64 dp) from dec_dp) (fun w hc => ld1 ag3 hc)) rfl rfl rfl ?_; clear S a; intro a S
   refine l_pure S (p_gtr rfl rfl) rfl rfl rfl ?_; clear S a; intro a S
   refine l_nil ?_
   refine e_then ?_
   refine c_cond S rfl (fun bc12 => ?_) (fun bc12 => ?_)
   ·
    have c12 := bc12
    have c12 := of_decide_eq_true c12
    refine wp_goto ?_
    refine e_then_g ?_
    refine e_j2_1 ?_
    exact ⟨D, nd, dp, tr, S.only ⟨rfl, rfl, trivial⟩, H, by rw [← hR]; simp only [fbt, bc10, bc12, cond_true, cond_false]⟩
   ·
    have c12 := bc12
    have c12 := of_decide_eq_false c12
    refine wp_skip ?_
    refine e_then ?_
    refine wp_seq ?_
    refine wp_seq ?_
    refine c_region ?_
    refine l_mv 2 S rfl ?_; clear S a; intro a S
    refine l_pure S (p_fieldAddr rfl (fun w => fa113_2 w _ _)) rfl rfl rfl ?_; clear S a; intro a S
    refine l_read S H (r_load rfl List.mem_cons_self (show _ = some (.int .i64 dp) from dec_dp) (fun w hc => ld1 ag3 hc)) rfl rfl rfl ?_; clear S a; intro a S
    refine l_pure S (p_lss rfl rfl) rfl rfl rfl ?_; clear S a; intro a S
    refine l_nil ?_
    refine e_then ?_
    refine c_cond S rfl (fun bc14 => ?_) (fun bc14 => ?_)
    ·
     have c14 := bc14
     have c14 := of_decide_eq_true c14
     refine wp_seq ?_
     refine c_region ?_
     refine l_mv 1 S rfl ?_; clear S a; intro a S
     refine l_nil ?_
     refine e_then ?_
     refine wp_seq ?_
     refine c_region ?_
     refine l_mv 2 S rfl ?_; clear S a; intro a S
     refine l_pure S (p_fieldAddr rfl (fun w => fa103_2 w _ _)) rfl rfl rfl ?_; clear S a; intro a S
     refine l_read S H (r_loadG rfl hW.inf.2.2.1 hW.inf.2.2.2 ag3) rfl rfl rfl ?_; clear S a; intro a S
     refine l_mv 1 S rfl ?_; clear S a; intro a S
     refine l_nil ?_
     refine e_then ?_
     refine wp_goto ?_
     refine e_then_g ?_
     refine e_j2_0 ?_
     exact ⟨(0#64), (-1023), false, D, nd, dp, tr, S.only ⟨rfl, rfl, rfl, rfl, rfl, trivial⟩, H, by rw [← hR]; simp only [fbt, bc10, bc12, bc14, cond_true, cond_false], by omega⟩
    ·
     have c14 := bc14
     have c14 := of_decide_eq_false c14
     refine wp_skip ?_
     refine e_then ?_
     refine wp_seq ?_
     refine c_region ?_
     refine l_mv 1 S rfl ?_; clear S a; intro a S
     refine l_nil ?_
     refine e_then ?_
     refine c_cut (fun a w => ∃ ex : Int, ∃ E : Int → Int, ∃ mz : Int, ∃ pz : Int, ∃ tz : Bool, SL a 243 [] [(0, .pointer (some ⟨gd, 0, none⟩)), (1, .pointer (some ⟨9, 0, none⟩)), (5, .bool false), (6, .int .i64 ex)] ∧ HH B wb w ((gd, .cells (decC E mz pz ng tz) 113 (0, 0)) :: L0) ∧ fb1 D nd dp ng tr ex E mz pz tz = R ∧ (Dg E mz ∧ (1 ≤ mz ∧ mz ≤ 800) ∧ (-30000 ≤ pz ∧ pz ≤ 310) ∧ (-20000000 ≤ ex + 27 * (20 * pz + E 0) ∧ ex ≤ 20000000))) ?_ ?_
     ·
      clear S a H hR; rintro a w ⟨ex, E, mz, pz, tz, S, H, hR, hinv⟩
      obtain ⟨hG, hM, hp, hx⟩ := hinv
      have hd0 := hG.1 0 (by omega) (by omega)
      refine c_cut (fun a w => ∃ ex : Int, ∃ E : Int → Int, ∃ mz : Int, ∃ pz : Int, ∃ tz : Bool, SL a 243 [] [(0, .pointer (some ⟨gd, 0, none⟩)), (1, .pointer (some ⟨9, 0, none⟩)), (5, .bool false), (6, .int .i64 ex)] ∧ HH B wb w ((gd, .cells (decC E mz pz ng tz) 113 (0, 0)) :: L0) ∧ fb2 D nd dp ng tr ex E mz pz tz = R ∧ (Dg E mz ∧ (1 ≤ mz ∧ mz ≤ 800) ∧ (-30000 ≤ pz ∧ pz ≤ 310) ∧ (-30000000 ≤ ex ∧ ex ≤ 30000000))) ?_ ?_
      ·
       clear S a H hR; rintro a w ⟨ex, E, mz, pz, tz, S, H, hR, hinv⟩
       obtain ⟨hG, hM, hp, hx⟩ := hinv
       have hd0 := hG.1 0 (by omega) (by omega)
       refine wp_seq ?_
       refine c_region ?_
       refine l_mv 1 S rfl ?_; clear S a; intro a S
       refine l_pure S (p_sub (r := (ex - 1)) rfl rfl (IntWalk.i64_in _ (by omega))) rfl rfl rfl ?_; clear S a; intro a S
       refine l_mv 1 S rfl ?_; clear S a; intro a S
       refine l_nil ?_
       refine e_then ?_
       refine c_cut (fun a w => ∃ ex : Int, ∃ E : Int → Int, ∃ mz : Int, ∃ pz : Int, ∃ tz : Bool, SL a 243 [] [(0, .pointer (some ⟨gd, 0, none⟩)), (1, .pointer (some ⟨9, 0, none⟩)), (5, .bool false), (6, .int .i64 ex)] ∧ HH B wb w ((gd, .cells (decC E mz pz ng tz) 113 (0, 0)) :: L0) ∧ fb3 D nd dp ng tr ex E mz pz tz = R ∧ (Dg E mz ∧ (1 ≤ mz ∧ mz ≤ 800) ∧ (-1000000000000 ≤ pz ∧ pz ≤ 400) ∧ (-40000000 ≤ ex ∧ ex ≤ 40000000))) ?_ ?_
       ·
        clear S a H hR; rintro a w ⟨ex, E, mz, pz, tz, S, H, hR, hinv⟩
        obtain ⟨hG, hM, hp, hx⟩ := hinv
        have hd0 := hG.1 0 (by omega) (by omega)
        refine wp_seq ?_
        refine wp_seq ?_
        refine d_start (id := 30) [] 13 #[false, false, false, false, false, false, false, false, false, false, false, false, false] H rfl rfl rfl (fun w H => ?_)
        refine d_mv [0, 1, 2, 6, 7] #[true, true, true, false, false, false, true, true, false, false, false, false, false] S rfl (by kernel_rfl) (fun _ _ _ _ _ h => h) ?_; clear S a; intro a S
        refine d_pure (i := 3) #[true, true, true, true, false, false, true, true, false, false, false, false, false] S rfl (p_fieldAddr rfl (fun w => fa103_2 w _ _)) (wanted_none rfl) rfl rfl (by kernel_rfl) (fun _ _ _ h => h) ?_; clear S a; intro a S
        refine d_read (i := 4) #[true, true, true, true, true, false, true, true, false, false, false, false, false] S H rfl (r_loadG rfl hW.inf.2.2.1 hW.inf.2.2.2 ag3) (wanted_none rfl) rfl rfl (by kernel_rfl) (fun _ _ _ h => h) ?_; clear S a; intro a S
        refine d_pure (i := 5) #[true, true, true, true, true, true, true, true, false, false, false, false, false] S rfl (p_sub (r := (ex - (-1023))) rfl rfl (IntWalk.i64_in _ (by omega))) (wanted_none rfl) rfl rfl (by kernel_rfl) (fun _ _ _ h => h) ?_; clear S a; intro a S
        refine d_pure (i := 8) #[true, true, true, true, true, true, true, true, true, false, false, false, false] S rfl (p_fieldAddr rfl (fun w => fa103_1 w _ _)) (wanted_none rfl) rfl rfl (by kernel_rfl) (fun _ _ _ h => h) ?_; clear S a; intro a S
        refine d_read (i := 9) #[true, true, true, true, true, true, true, true, true, true, false, false, false] S H rfl (r_loadG rfl hW.inf.2.1 hW.inf.2.2.2 ag87) (wanted_none rfl) rfl rfl (by kernel_rfl) (fun _ _ _ h => h) ?_; clear S a; intro a S
        refine d_pure (i := 10) #[true, true, true, true, true, true, true, true, true, true, true, false, false] S rfl (p_shl (r := 2048) rfl rfl (by decide) (by decide)) (wanted_none rfl) rfl rfl (by kernel_rfl) (fun _ _ _ h => h) ?_; clear S a; intro a S
        refine d_pure (i := 11) #[true, true, true, true, true, true, true, true, true, true, true, true, false] S rfl (p_sub (r := 2047) rfl rfl (by decide)) (wanted_none rfl) rfl rfl (by kernel_rfl) (fun _ _ _ h => h) ?_; clear S a; intro a S
        refine d_pure (i := 12) #[true, true, true, true, true, true, true, true, true, true, true, true, true] S rfl (p_geq rfl rfl) (wanted_none rfl) rfl rfl (by kernel_rfl) (fun _ _ _ h => h) ?_; clear S a; intro a S
        refine d_done (by kernel_rfl) ?_
        refine e_then ?_
        refine c_cond S rfl (fun bc16 => ?_) (fun bc16 => ?_)
        ·
         have c16 := bc16
         have c16 := of_decide_eq_true c16
         refine wp_goto ?_
         refine e_then_g ?_
         refine e_j2_1 ?_
         exact ⟨E, mz, pz, tz, S.only ⟨rfl, rfl, trivial⟩, H, by rw [← hR]; simp only [fb3, bc16, cond_true, cond_false]⟩
        ·
         have c16 := bc16
         have c16 := of_decide_eq_false c16
         refine wp_skip ?_
         refine e_then ?_
         refine wp_seq ?_
         refine c_region ?_
         refine l_mv 3 S rfl ?_; clear S a; intro a S
         refine l_pure S (p_fieldAddr rfl (fun w => fa103_0 w _ _)) rfl rfl rfl ?_; clear S a; intro a S
         refine l_read S H (r_loadG rfl hW.inf.1 hW.inf.2.2.2 ag87) rfl rfl rfl ?_; clear S a; intro a S
         refine l_pure S (p_add (r := 53) rfl rfl (by decide)) rfl rfl rfl ?_; clear S a; intro a S
         refine l_pure S (p_conv rfl (fun w => cv_int (Tryz.underlying87) (Tryz.underlying3) (r := 53) (by decide))) rfl rfl rfl ?_; clear S a; intro a S
         have hcon := d5.shf_ wb _ B L0 hL gd E mz pz ng tz 53 (by omega) hM hG (by omega) H
         refine l_call S rfl rfl Tryz.func79 rfl rfl (hcon) rfl rfl rfl ?_
         rintro e w ⟨rfl, hH, ⟨hs1, hs2⟩, hsl, hsr⟩
         refine ⟨_, rfl, ?_⟩; clear S a; intro a S
         clear H hcon; have H := hH; clear hH
         have hs3 := hsl (by omega)
         refine l_nil ?_
         refine e_then ?_
         refine wp_seq ?_
         refine c_region ?_
         refine l_mv 1 S rfl ?_; clear S a; intro a S
         have hcon := d1.rin_ wb _ B L0 gd (d5.shf 53 E mz pz tz).1 (d5.shf 53 E mz pz tz).2.1 (d5.shf 53 E mz pz tz).2.2.1 ng (d5.shf 53 E mz pz tz).2.2.2 (by omega) (by omega) hs1.1 H
         refine l_call S rfl rfl Tryz.func80 rfl rfl (hcon) rfl rfl rfl ?_
         rintro e w ⟨rfl, hH⟩
         refine ⟨_, rfl, ?_⟩; clear S a; intro a S
         clear H hcon; have H := hH; clear hH
         refine l_mv 1 S rfl ?_; clear S a; intro a S
         refine l_nil ?_
         refine e_then ?_
         refine c_cut (fun a w => ∃ ex : Int, ∃ mm : BitVec 64, ∃ E : Int → Int, ∃ mz : Int, ∃ pz : Int, ∃ tz : Bool, SL a 243 [] [(0, .pointer (some ⟨gd, 0, none⟩)), (1, .pointer (some ⟨9, 0, none⟩)), (5, .bool false), (6, .int .i64 ex), (7, .int .u64 (mm.toNat : Int))] ∧ HH B wb w ((gd, .cells (decC E mz pz ng tz) 113 (0, 0)) :: L0) ∧ fb4 D nd dp ng tr ex mm E mz pz tz = R ∧ (-50000000 ≤ ex ∧ ex ≤ 50000000)) ?_ ?_
         ·
          clear S a H hR; rintro a w ⟨ex, mm, E, mz, pz, tz, S, H, hR, hinv⟩
          have hx := hinv
          refine wp_seq ?_
          refine wp_seq ?_
          refine c_region ?_
          refine l_mv 3 S rfl ?_; clear S a; intro a S
          refine l_pure S (p_fieldAddr rfl (fun w => fa103_0 w _ _)) rfl rfl rfl ?_; clear S a; intro a S
          refine l_read S H (r_loadG rfl hW.inf.1 hW.inf.2.2.2 ag87) rfl rfl rfl ?_; clear S a; intro a S
          refine l_pure S (p_shl rfl rfl (by decide) (shl64 1#64 (n := (52 : Nat)) rfl (by decide))) rfl rfl rfl ?_; clear S a; intro a S
          refine l_pure S (p_and rfl rfl (and64 mm (1#64 <<< (52 : Nat)))) rfl rfl rfl ?_; clear S a; intro a S
          refine l_pure S (p_eql rfl rfl) rfl rfl rfl ?_; clear S a; intro a S
          refine l_nil ?_
          refine e_then ?_
          refine c_cond S rfl (fun bc18 => ?_) (fun bc18 => ?_)
          ·
           have c18 := bc18
           have c18 := eq_of_beq c18
           refine c_region ?_
           refine l_mv 2 S rfl ?_; clear S a; intro a S
           refine l_pure S (p_fieldAddr rfl (fun w => fa103_2 w _ _)) rfl rfl rfl ?_; clear S a; intro a S
           refine l_read S H (r_loadG rfl hW.inf.2.2.1 hW.inf.2.2.2 ag3) rfl rfl rfl ?_; clear S a; intro a S
           refine l_mv 1 S rfl ?_; clear S a; intro a S
           refine l_nil ?_
           refine e_then ?_
           refine wp_seq ?_
           refine wp_goto ?_
           refine e_then_g ?_
           refine e_j2_0 ?_
           exact ⟨mm, (-1023), false, E, mz, pz, tz, S.only ⟨rfl, rfl, rfl, rfl, rfl, trivial⟩, H, by rw [← hR]; simp only [fb4, bc18, cond_true, cond_false], by omega⟩
          ·
           have c18 := bc18
           have c18 := ne_of_beq_false c18
           refine wp_skip ?_
           refine e_then ?_
           refine wp_seq ?_
           refine wp_goto ?_
           refine e_then_g ?_
           refine e_j2_0 ?_
           exact ⟨mm, ex, false, E, mz, pz, tz, S.only ⟨rfl, rfl, rfl, rfl, rfl, trivial⟩, H, by rw [← hR]; simp only [fb4, bc18, cond_true, cond_false], by omega⟩
         ·
          refine wp_seq ?_
          refine c_region ?_
          refine l_mv 3 S rfl ?_; clear S a; intro a S
          refine l_pure S (p_fieldAddr rfl (fun w => fa103_0 w _ _)) rfl rfl rfl ?_; clear S a; intro a S
          refine l_read S H (r_loadG rfl hW.inf.1 hW.inf.2.2.2 ag87) rfl rfl rfl ?_; clear S a; intro a S
          refine l_pure S (p_shl rfl rfl (by decide) (shl64 2#64 (n := (52 : Nat)) rfl (by decide))) rfl rfl rfl ?_; clear S a; intro a S
          refine l_pure S (p_eql rfl rfl) rfl rfl rfl ?_; clear S a; intro a S
          refine l_nil ?_
          refine e_then ?_
          refine c_cond S rfl (fun bc20 => ?_) (fun bc20 => ?_)
          ·
           have c20 := bc20
           have c20 := eq_of_beq c20
           refine wp_seq ?_
           refine c_region ?_
           refine l_mv 1 S rfl ?_; clear S a; intro a S
           refine l_pure S (p_shr rfl rfl (by decide) (shr64 (d1.rin (d5.shf 53 E mz pz tz).1 (d5.shf 53 E mz pz tz).2.1 (d5.shf 53 E mz pz tz).2.2.1 (d5.shf 53 E mz pz tz).2.2.2) (n := (1 : Nat)) rfl (by decide))) rfl rfl rfl ?_; clear S a; intro a S
           refine l_mv 1 S rfl ?_; clear S a; intro a S
           refine l_nil ?_
           refine e_then ?_
           refine wp_seq ?_
           refine c_region ?_
           refine l_mv 1 S rfl ?_; clear S a; intro a S
           refine l_pure S (p_add (r := (ex + 1)) rfl rfl (IntWalk.i64_in _ (by omega))) rfl rfl rfl ?_; clear S a; intro a S
           refine l_mv 1 S rfl ?_; clear S a; intro a S
           refine l_nil ?_
           refine e_then ?_
           refine wp_seq ?_
           refine d_start (id := 36) [] 13 #[false, false, false, false, false, false, false, false, false, false, false, false, false] H rfl rfl rfl (fun w H => ?_)
           refine d_mv [0, 1, 2, 6, 7] #[true, true, true, false, false, false, true, true, false, false, false, false, false] S rfl (by kernel_rfl) (fun _ _ _ _ _ h => h) ?_; clear S a; intro a S
           refine d_pure (i := 3) #[true, true, true, true, false, false, true, true, false, false, false, false, false] S rfl (p_fieldAddr rfl (fun w => fa103_2 w _ _)) (wanted_none rfl) rfl rfl (by kernel_rfl) (fun _ _ _ h => h) ?_; clear S a; intro a S
           refine d_read (i := 4) #[true, true, true, true, true, false, true, true, false, false, false, false, false] S H rfl (r_loadG rfl hW.inf.2.2.1 hW.inf.2.2.2 ag3) (wanted_none rfl) rfl rfl (by kernel_rfl) (fun _ _ _ h => h) ?_; clear S a; intro a S
           refine d_pure (i := 5) #[true, true, true, true, true, true, true, true, false, false, false, false, false] S rfl (p_sub (r := ((ex + 1) - (-1023))) rfl rfl (IntWalk.i64_in _ (by omega))) (wanted_none rfl) rfl rfl (by kernel_rfl) (fun _ _ _ h => h) ?_; clear S a; intro a S
           refine d_pure (i := 8) #[true, true, true, true, true, true, true, true, true, false, false, false, false] S rfl (p_fieldAddr rfl (fun w => fa103_1 w _ _)) (wanted_none rfl) rfl rfl (by kernel_rfl) (fun _ _ _ h => h) ?_; clear S a; intro a S
           refine d_read (i := 9) #[true, true, true, true, true, true, true, true, true, true, false, false, false] S H rfl (r_loadG rfl hW.inf.2.1 hW.inf.2.2.2 ag87) (wanted_none rfl) rfl rfl (by kernel_rfl) (fun _ _ _ h => h) ?_; clear S a; intro a S
           refine d_pure (i := 10) #[true, true, true, true, true, true, true, true, true, true, true, false, false] S rfl (p_shl (r := 2048) rfl rfl (by decide) (by decide)) (wanted_none rfl) rfl rfl (by kernel_rfl) (fun _ _ _ h => h) ?_; clear S a; intro a S
           refine d_pure (i := 11) #[true, true, true, true, true, true, true, true, true, true, true, true, false] S rfl (p_sub (r := 2047) rfl rfl (by decide)) (wanted_none rfl) rfl rfl (by kernel_rfl) (fun _ _ _ h => h) ?_; clear S a; intro a S
           refine d_pure (i := 12) #[true, true, true, true, true, true, true, true, true, true, true, true, true] S rfl (p_geq rfl rfl) (wanted_none rfl) rfl rfl (by kernel_rfl) (fun _ _ _ h => h) ?_; clear S a; intro a S
           refine d_done (by kernel_rfl) ?_
           refine e_then ?_
           refine c_cond S rfl (fun bc22 => ?_) (fun bc22 => ?_)
           ·
            have c22 := bc22
            have c22 := of_decide_eq_true c22
            refine wp_goto ?_
            refine e_then_g ?_
            refine e_j2_1 ?_
            exact ⟨(d5.shf 53 E mz pz tz).1, (d5.shf 53 E mz pz tz).2.1, (d5.shf 53 E mz pz tz).2.2.1, (d5.shf 53 E mz pz tz).2.2.2, S.only ⟨rfl, rfl, trivial⟩, H, by rw [← hR]; simp only [fb3, bc16, bc20, bc22, cond_true, cond_false]⟩
           ·
            have c22 := bc22
            have c22 := of_decide_eq_false c22
            refine wp_skip ?_
            refine e_then ?_
            exact ⟨(ex + 1), ((d1.rin (d5.shf 53 E mz pz tz).1 (d5.shf 53 E mz pz tz).2.1 (d5.shf 53 E mz pz tz).2.2.1 (d5.shf 53 E mz pz tz).2.2.2) >>> (1 : Nat)), (d5.shf 53 E mz pz tz).1, (d5.shf 53 E mz pz tz).2.1, (d5.shf 53 E mz pz tz).2.2.1, (d5.shf 53 E mz pz tz).2.2.2, S.only ⟨rfl, rfl, rfl, rfl, rfl, trivial⟩, H, by rw [← hR]; simp only [fb3, bc16, bc20, bc22, cond_true, cond_false], by omega⟩
          ·
           have c20 := bc20
           have c20 := ne_of_beq_false c20
           refine wp_skip ?_
           refine e_then ?_
           exact ⟨ex, (d1.rin (d5.shf 53 E mz pz tz).1 (d5.shf 53 E mz pz tz).2.1 (d5.shf 53 E mz pz tz).2.2.1 (d5.shf 53 E mz pz tz).2.2.2), (d5.shf 53 E mz pz tz).1, (d5.shf 53 E mz pz tz).2.1, (d5.shf 53 E mz pz tz).2.2.1, (d5.shf 53 E mz pz tz).2.2.2, S.only ⟨rfl, rfl, rfl, rfl, rfl, trivial⟩, H, by rw [← hR]; simp only [fb3, bc16, bc20, cond_true, cond_false], by omega⟩
       ·
        refine wp_seq ?_
        refine c_region ?_
        refine l_mv 3 S rfl ?_; clear S a; intro a S
        refine l_pure S (p_fieldAddr rfl (fun w => fa103_2 w _ _)) rfl rfl rfl ?_; clear S a; intro a S
        refine l_read S H (r_loadG rfl hW.inf.2.2.1 hW.inf.2.2.2 ag3) rfl rfl rfl ?_; clear S a; intro a S
        refine l_pure S (p_add (r := (-1022)) rfl rfl (by decide)) rfl rfl rfl ?_; clear S a; intro a S
        refine l_pure S (p_lss rfl rfl) rfl rfl rfl ?_; clear S a; intro a S
        refine l_nil ?_
        refine e_then ?_
        refine c_cond S rfl (fun bc24 => ?_) (fun bc24 => ?_)
        ·
         have c24 := bc24
         have c24 := of_decide_eq_true c24
         refine wp_seq ?_
         refine c_region ?_
         refine l_mv 2 S rfl ?_; clear S a; intro a S
         refine l_pure S (p_fieldAddr rfl (fun w => fa103_2 w _ _)) rfl rfl rfl ?_; clear S a; intro a S
         refine l_read S H (r_loadG rfl hW.inf.2.2.1 hW.inf.2.2.2 ag3) rfl rfl rfl ?_; clear S a; intro a S
         refine l_pure S (p_add (r := (-1022)) rfl rfl (by decide)) rfl rfl rfl ?_; clear S a; intro a S
         refine l_mv 1 S rfl ?_; clear S a; intro a S
         refine l_pure S (p_sub (r := ((-1022) - (ex - 1))) rfl rfl (IntWalk.i64_in _ (by omega))) rfl rfl rfl ?_; clear S a; intro a S
         refine l_mv 1 S rfl ?_; clear S a; intro a S
         refine l_nil ?_
         refine e_then ?_
         refine wp_seq ?_
         refine c_region ?_
         refine l_mv 2 S rfl ?_; clear S a; intro a S
         refine l_pure S (p_un rfl (fun w => fz.neg64 (by omega) w)) rfl rfl rfl ?_; clear S a; intro a S
         have hcon := d5.shf_ wb _ B L0 hL gd E mz pz ng tz (-((-1022) - (ex - 1))) (by omega) hM hG (by omega) H
         refine l_call S rfl rfl Tryz.func79 rfl rfl (hcon) rfl rfl rfl ?_
         rintro e w ⟨rfl, hH, ⟨hs1, hs2⟩, hsl, hsr⟩
         refine ⟨_, rfl, ?_⟩; clear S a; intro a S
         clear H hcon; have H := hH; clear hH
         have hs3 := hsr (by omega)
         refine l_nil ?_
         refine e_then ?_
         refine c_region ?_
         refine l_mv 2 S rfl ?_; clear S a; intro a S
         refine l_pure S (p_add (r := ((ex - 1) + ((-1022) - (ex - 1)))) rfl rfl (IntWalk.i64_in _ (by omega))) rfl rfl rfl ?_; clear S a; intro a S
         refine l_mv 1 S rfl ?_; clear S a; intro a S
         refine l_nil ?_
         refine e_then ?_
         exact ⟨((ex - 1) + ((-1022) - (ex - 1))), (d5.shf (-((-1022) - (ex - 1))) E mz pz tz).1, (d5.shf (-((-1022) - (ex - 1))) E mz pz tz).2.1, (d5.shf (-((-1022) - (ex - 1))) E mz pz tz).2.2.1, (d5.shf (-((-1022) - (ex - 1))) E mz pz tz).2.2.2, S.only ⟨rfl, rfl, rfl, rfl, trivial⟩, H, by rw [← hR]; simp only [fb2, bc24, cond_true, cond_false], ⟨hs1, hs2, by omega, by omega⟩⟩
        ·
         have c24 := bc24
         have c24 := of_decide_eq_false c24
         refine wp_skip ?_
         refine e_then ?_
         exact ⟨(ex - 1), E, mz, pz, tz, S.only ⟨rfl, rfl, rfl, rfl, trivial⟩, H, by rw [← hR]; simp only [fb2, bc24, cond_true, cond_false], ⟨hG, hM, by omega, by omega⟩⟩
      ·
       refine wp_block ?_
       refine c_loop (σ := Nat × Int × (Int → Int) × Int × Int × Bool) (fun s_ a w => match s_ with | (k_, ex, E, mz, pz, tz) => SL a 243 [] [(0, .pointer (some ⟨gd, 0, none⟩)), (1, .pointer (some ⟨9, 0, none⟩)), (5, .bool false), (6, .int .i64 ex)] ∧ HH B wb w ((gd, .cells (decC E mz pz ng tz) 113 (0, 0)) :: L0) ∧ (fbl2 D nd dp ng tr k_ ex E mz pz tz = R ∧ (20 * 400 - (20 * pz + E 0)).toNat < k_ ∧ (Dg E mz ∧ (1 ≤ mz ∧ mz ≤ 800) ∧ (-30000 ≤ pz ∧ pz ≤ 310) ∧ (-20000000 ≤ ex + 27 * (20 * pz + E 0) ∧ ex ≤ 20000000)))) (fun s_ => s_.1) (((20 * 400 - (20 * pz + E 0)).toNat) + 1, ex, E, mz, pz, tz) ⟨S.only ⟨rfl, rfl, rfl, rfl, trivial⟩, H, by rw [← hR]; simp only [fb1, cond_true, cond_false], by omega, ⟨hG, hM, by omega, by omega⟩⟩ ?_
       clear S a H hR; rintro ⟨fu, ex, E, mz, pz, tz⟩ a w ⟨S, H, hR, hk, hinv⟩
       obtain ⟨fu, rfl⟩ : ∃ j, fu = j + 1 := ⟨fu - 1, by omega⟩
       obtain ⟨hG, hM, hp, hx⟩ := hinv
       have hd0 := hG.1 0 (by omega) (by omega)
       refine wp_seq ?_
       refine wp_seq ?_
       refine c_region ?_
       refine l_mv 2 S rfl ?_; clear S a; intro a S
       refine l_pure S (p_fieldAddr rfl (fun w => fa113_2 w _ _)) rfl rfl rfl ?_; clear S a; intro a S
       refine l_read S H (r_load rfl List.mem_cons_self (show _ = some (.int .i64 pz) from dec_dp) (fun w hc => ld1 ag3 hc)) rfl rfl rfl ?_; clear S a; intro a S
       refine l_pure S (p_lss rfl rfl) rfl rfl rfl ?_; clear S a; intro a S
       refine l_mv 1 S rfl ?_; clear S a; intro a S
       refine l_split (S.of 66 rfl) (fun bc26 => ?_) (fun bc26 => ?_)
       ·
        have c26 := bc26
        have c26 := of_decide_eq_true c26
        refine l_off S rfl rfl rfl rfl bc26 rfl rfl ?_; clear S a; intro a S
        refine l_off S rfl rfl rfl rfl bc26 rfl rfl ?_; clear S a; intro a S
        refine l_off S rfl rfl rfl rfl bc26 rfl rfl ?_; clear S a; intro a S
        refine l_off S rfl rfl rfl rfl bc26 rfl rfl ?_; clear S a; intro a S
        refine l_off S rfl rfl rfl rfl bc26 rfl rfl ?_; clear S a; intro a S
        refine l_off S rfl rfl rfl rfl bc26 rfl rfl ?_; clear S a; intro a S
        refine l_offU S rfl rfl rfl rfl rfl rfl ?_; clear S a; intro a S
        refine l_offU S rfl rfl rfl rfl rfl rfl ?_; clear S a; intro a S
        refine l_offU S rfl rfl rfl rfl rfl rfl ?_; clear S a; intro a S
        refine l_offU S rfl rfl rfl rfl rfl rfl ?_; clear S a; intro a S
        refine l_offU S rfl rfl rfl rfl rfl rfl ?_; clear S a; intro a S
        refine l_offU S rfl rfl rfl rfl rfl rfl ?_; clear S a; intro a S
        refine l_off S rfl rfl rfl rfl bc26 rfl rfl ?_; clear S a; intro a S
        refine l_pure S (p_pick_t rfl bc26 rfl) rfl rfl rfl ?_; clear S a; intro a S
        refine l_nil ?_
        refine e_then ?_
        refine c_cond (b := true) S rfl (fun _ => ?_) (fun h => by cases h)
        refine wp_skip ?_
        refine e_then ?_
        refine wp_block ?_
        refine wp_seq ?_
        refine c_region ?_
        refine l_mv 1 S rfl ?_; clear S a; intro a S
        refine l_nil ?_
        refine e_then ?_
        refine wp_seq ?_
        refine wp_seq ?_
        refine d_start (id := 20) [] 8 #[false, false, false, false, false, false, false, false] H rfl rfl rfl (fun w H => ?_)
        refine d_mv [0, 1] #[true, true, false, false, false, false, false, false] S rfl (by kernel_rfl) (fun _ _ _ _ _ h => h) ?_; clear S a; intro a S
        refine d_pure (i := 2) #[true, true, true, false, false, false, false, false] S rfl (p_fieldAddr rfl (fun w => fa113_2 w _ _)) (wanted_none rfl) rfl rfl (by kernel_rfl) (fun _ _ _ h => h) ?_; clear S a; intro a S
        refine d_read (i := 3) #[true, true, true, true, false, false, false, false] S H rfl (r_load rfl List.mem_cons_self (show _ = some (.int .i64 pz) from dec_dp) (fun w hc => ld1 ag3 hc)) (wanted_none rfl) rfl rfl (by kernel_rfl) (fun _ _ _ h => h) ?_; clear S a; intro a S
        refine d_pure (i := 4) #[true, true, true, true, true, false, false, false] S rfl (p_un rfl (fun w => fz.neg64 (by omega) w)) (wanted_none rfl) rfl rfl (by kernel_rfl) (fun _ _ _ h => h) ?_; clear S a; intro a S
        obtain ⟨gt, ct, ot, ht1, ht2, ht3, ht4⟩ := hW.pwt
        refine d_read (i := 5) #[true, true, true, true, true, true, false, false] S H rfl (r_loadG rfl ht1 ht2 ag137) (wanted_none rfl) rfl rfl (by kernel_rfl) (fun _ _ _ h => h) ?_; clear S a; intro a S
        refine d_pure (i := 6) #[true, true, true, true, true, true, true, false] S rfl (p_len Tryz.underlying137 rfl) (wanted_none rfl) rfl rfl (by kernel_rfl) (fun _ _ _ h => h) ?_; clear S a; intro a S
        refine d_pure (i := 7) #[true, true, true, true, true, true, true, true] S rfl (p_geq rfl rfl) (wanted_none rfl) rfl rfl (by kernel_rfl) (fun _ _ _ h => h) ?_; clear S a; intro a S
        refine d_done (by kernel_rfl) ?_
        refine e_then ?_
        refine c_cond S rfl (fun bc30 => ?_) (fun bc30 => ?_)
        ·
         have c30 := bc30
         have c30 := of_decide_eq_true c30
         refine c_region ?_
         refine l_mv 1 S rfl ?_; clear S a; intro a S
         refine l_nil ?_
         refine e_then ?_
         refine wp_seq ?_
         refine c_region ?_
         refine l_mv 2 S rfl ?_; clear S a; intro a S
         have hcon := d5.shf_ wb _ B L0 hL gd E mz pz ng tz 27 (by omega) hM hG (by omega) H
         refine l_call S rfl rfl Tryz.func79 rfl rfl (hcon) rfl rfl rfl ?_
         rintro e w ⟨rfl, hH, ⟨hs1, hs2⟩, hsl, hsr⟩
         refine ⟨_, rfl, ?_⟩; clear S a; intro a S
         clear H hcon; have H := hH; clear hH
         have hs3 := hsl (by omega)
         refine l_nil ?_
         refine e_then ?_
         refine c_region ?_
         refine l_mv 2 S rfl ?_; clear S a; intro a S
         refine l_pure S (p_sub (r := (ex - 27)) rfl rfl (IntWalk.i64_in _ (by omega))) rfl rfl rfl ?_; clear S a; intro a S
         refine l_mv 1 S rfl ?_; clear S a; intro a S
         refine l_nil ?_
         refine e_in 3 ?_
         refine e_then ?_
         have hd1 := hs1.1 0 (by omega) (by omega)
         exact ⟨(fu, (ex - 27), (d5.shf 27 E mz pz tz).1, (d5.shf 27 E mz pz tz).2.1, (d5.shf 27 E mz pz tz).2.2.1, (d5.shf 27 E mz pz tz).2.2.2), ⟨S.only ⟨rfl, rfl, rfl, rfl, trivial⟩, H, by rw [← hR]; simp only [fbl2, bc26, bc30, cond_true, cond_false], by omega, ⟨hs1, hs2, by omega, by omega⟩⟩, Nat.lt_succ_self fu⟩
        ·
         have c30 := bc30
         have c30 := of_decide_eq_false c30
         refine d_start (id := 22) [] 9 #[false, false, false, false, false, false, false, false, false] H rfl rfl rfl (fun w H => ?_)
         refine d_mv [1, 2] #[false, true, true, false, false, false, false, false, false] S rfl (by kernel_rfl) (fun _ _ _ _ _ h => h) ?_; clear S a; intro a S
         obtain ⟨gt, ct, ot, ht1, ht2, ht3, ht4⟩ := hW.pwt
         refine d_read (i := 0) #[true, true, true, false, false, false, false, false, false] S H rfl (r_loadG rfl ht1 ht2 ag137) (wanted_none rfl) rfl rfl (by kernel_rfl) (fun _ _ _ h => h) ?_; clear S a; intro a S
         refine d_pure (i := 3) #[true, true, true, true, false, false, false, false, false] S rfl (p_fieldAddr rfl (fun w => fa113_2 w _ _)) (wanted_none rfl) rfl rfl (by kernel_rfl) (fun _ _ _ h => h) ?_; clear S a; intro a S
         refine d_read (i := 4) #[true, true, true, true, true, false, false, false, false] S H rfl (r_load rfl List.mem_cons_self (show _ = some (.int .i64 pz) from dec_dp) (fun w hc => ld1 ag3 hc)) (wanted_none rfl) rfl rfl (by kernel_rfl) (fun _ _ _ h => h) ?_; clear S a; intro a S
         refine d_pure (i := 5) #[true, true, true, true, true, true, false, false, false] S rfl (p_un rfl (fun w => fz.neg64 (by omega) w)) (wanted_none rfl) rfl rfl (by kernel_rfl) (fun _ _ _ h => h) ?_; clear S a; intro a S
         refine d_pure (i := 6) #[true, true, true, true, true, true, true, false, false] S rfl (p_indexAddr rfl rfl (fun w => ia_slice Tryz.underlying137 sz3 (by omega) (by omega))) (wanted_none rfl) rfl rfl (by kernel_rfl) (fun _ _ _ h => h) ?_; clear S a; intro a S
         have hpw := pwt_bd (i := ((-pz)).toNat) (by omega)
         refine d_read (i := 7) #[true, true, true, true, true, true, true, true, false] S H rfl (r_loadG rfl (show _ = some (Value.int .i64 (pwt ((-pz)).toNat)) from by rw [Nat.mul_one]; exact ht4 ((-pz)).toNat (by omega)) ht3 ag3) (wanted_none rfl) rfl rfl (by kernel_rfl) (fun _ _ _ h => h) ?_; clear S a; intro a S
         refine d_mv [8] #[true, true, true, true, true, true, true, true, true] S rfl (by kernel_rfl) (fun _ _ _ _ _ h => h) ?_; clear S a; intro a S
         refine d_done (by kernel_rfl) ?_
         refine e_then ?_
         refine wp_seq ?_
         refine c_region ?_
         refine l_mv 2 S rfl ?_; clear S a; intro a S
         have hcon := d5.shf_ wb _ B L0 hL gd E mz pz ng tz (pwt ((-pz)).toNat) (by omega) hM hG (by omega) H
         refine l_call S rfl rfl Tryz.func79 rfl rfl (hcon) rfl rfl rfl ?_
         rintro e w ⟨rfl, hH, ⟨hs1, hs2⟩, hsl, hsr⟩
         refine ⟨_, rfl, ?_⟩; clear S a; intro a S
         clear H hcon; have H := hH; clear hH
         have hs3 := hsl (by omega)
         refine l_nil ?_
         refine e_then ?_
         refine c_region ?_
         refine l_mv 2 S rfl ?_; clear S a; intro a S
         refine l_pure S (p_sub (r := (ex - (pwt ((-pz)).toNat))) rfl rfl (IntWalk.i64_in _ (by omega))) rfl rfl rfl ?_; clear S a; intro a S
         refine l_mv 1 S rfl ?_; clear S a; intro a S
         refine l_nil ?_
         refine e_in 3 ?_
         refine e_then ?_
         have hd1 := hs1.1 0 (by omega) (by omega)
         exact ⟨(fu, (ex - (pwt ((-pz)).toNat)), (d5.shf (pwt ((-pz)).toNat) E mz pz tz).1, (d5.shf (pwt ((-pz)).toNat) E mz pz tz).2.1, (d5.shf (pwt ((-pz)).toNat) E mz pz tz).2.2.1, (d5.shf (pwt ((-pz)).toNat) E mz pz tz).2.2.2), ⟨S.only ⟨rfl, rfl, rfl, rfl, trivial⟩, H, by rw [← hR]; simp only [fbl2, bc26, bc30, cond_true, cond_false], by omega, ⟨hs1, hs2, by omega, by omega⟩⟩, Nat.lt_succ_self fu⟩
       ·
        have c26 := bc26
        have c26 := of_decide_eq_false c26
        refine l_on S rfl rfl rfl rfl bc26 ?_
        refine l_pure S (p_move rfl) rfl rfl rfl ?_; clear S a; intro a S
        refine l_on S rfl rfl rfl rfl bc26 ?_
        refine l_pure S (p_nilCheck rfl) rfl rfl rfl ?_; clear S a; intro a S
        refine l_on S rfl rfl rfl rfl bc26 ?_
        refine l_pure S (p_fieldAddr rfl (fun w => fa113_2 w _ _)) rfl rfl rfl ?_; clear S a; intro a S
        refine l_on S rfl rfl rfl rfl bc26 ?_
        refine l_read S H (r_load rfl List.mem_cons_self (show _ = some (.int .i64 pz) from dec_dp) (fun w hc => ld1 ag3 hc)) rfl rfl rfl ?_; clear S a; intro a S
        refine l_on S rfl rfl rfl rfl bc26 ?_
        refine l_pure S (p_eql rfl rfl) rfl rfl rfl ?_; clear S a; intro a S
        refine l_on S rfl rfl rfl rfl bc26 ?_
        refine l_pure S (p_move rfl) rfl rfl rfl ?_; clear S a; intro a S
        refine l_split (S.of 72 rfl) (fun bc32 => ?_) (fun bc32 => ?_)
        ·
         have c32 := bc32
         have c32 := eq_of_beq c32
         refine l_on S rfl rfl rfl rfl bc32 ?_
         refine l_pure S (p_move rfl) rfl rfl rfl ?_; clear S a; intro a S
         refine l_on S rfl rfl rfl rfl bc32 ?_
         refine l_pure S (p_nilCheck rfl) rfl rfl rfl ?_; clear S a; intro a S
         refine l_on S rfl rfl rfl rfl bc32 ?_
         refine l_pure S (p_fieldAddr rfl (fun w => fa113_0 w _ _)) rfl rfl rfl ?_; clear S a; intro a S
         refine l_on S rfl rfl rfl rfl bc32 ?_
         refine l_pure S (p_indexAddr rfl rfl (fun w => ia_array Tryz.underlying111 sz5 (by omega) (by omega))) rfl rfl rfl ?_; clear S a; intro a S
         refine l_on S rfl rfl rfl rfl bc32 ?_
         refine l_read S H (r_load rfl List.mem_cons_self (dec_at (X := 0) (by omega) (by omega)) (fun w hc => ld1 ag5 hc)) rfl rfl rfl ?_; clear S a; intro a S
         refine l_on S rfl rfl rfl rfl bc32 ?_
         refine l_pure S (p_lss rfl rfl) rfl rfl rfl ?_; clear S a; intro a S
         refine l_on S rfl rfl rfl rfl bc26 ?_
         refine l_pure S (p_pick_t rfl bc32 rfl) rfl rfl rfl ?_; clear S a; intro a S
         refine l_pure S (p_pick_f rfl bc26 rfl) rfl rfl rfl ?_; clear S a; intro a S
         refine l_nil ?_
         refine e_then ?_
         refine c_cond S rfl (fun bc34 => ?_) (fun bc34 => ?_)
         ·
          have c34 := bc34
          have c34 := of_decide_eq_true c34
          refine wp_skip ?_
          refine e_then ?_
          refine wp_block ?_
          refine wp_seq ?_
          refine c_region ?_
          refine l_mv 1 S rfl ?_; clear S a; intro a S
          refine l_nil ?_
          refine e_then ?_
          refine wp_seq ?_
          refine wp_seq ?_
          refine d_start (id := 20) [] 8 #[false, false, false, false, false, false, false, false] H rfl rfl rfl (fun w H => ?_)
          refine d_mv [0, 1] #[true, true, false, false, false, false, false, false] S rfl (by kernel_rfl) (fun _ _ _ _ _ h => h) ?_; clear S a; intro a S
          refine d_pure (i := 2) #[true, true, true, false, false, false, false, false] S rfl (p_fieldAddr rfl (fun w => fa113_2 w _ _)) (wanted_none rfl) rfl rfl (by kernel_rfl) (fun _ _ _ h => h) ?_; clear S a; intro a S
          refine d_read (i := 3) #[true, true, true, true, false, false, false, false] S H rfl (r_load rfl List.mem_cons_self (show _ = some (.int .i64 pz) from dec_dp) (fun w hc => ld1 ag3 hc)) (wanted_none rfl) rfl rfl (by kernel_rfl) (fun _ _ _ h => h) ?_; clear S a; intro a S
          refine d_pure (i := 4) #[true, true, true, true, true, false, false, false] S rfl (p_un rfl (fun w => fz.neg64 (by omega) w)) (wanted_none rfl) rfl rfl (by kernel_rfl) (fun _ _ _ h => h) ?_; clear S a; intro a S
          obtain ⟨gt, ct, ot, ht1, ht2, ht3, ht4⟩ := hW.pwt
          refine d_read (i := 5) #[true, true, true, true, true, true, false, false] S H rfl (r_loadG rfl ht1 ht2 ag137) (wanted_none rfl) rfl rfl (by kernel_rfl) (fun _ _ _ h => h) ?_; clear S a; intro a S
          refine d_pure (i := 6) #[true, true, true, true, true, true, true, false] S rfl (p_len Tryz.underlying137 rfl) (wanted_none rfl) rfl rfl (by kernel_rfl) (fun _ _ _ h => h) ?_; clear S a; intro a S
          refine d_pure (i := 7) #[true, true, true, true, true, true, true, true] S rfl (p_geq rfl rfl) (wanted_none rfl) rfl rfl (by kernel_rfl) (fun _ _ _ h => h) ?_; clear S a; intro a S
          refine d_done (by kernel_rfl) ?_
          refine e_then ?_
          refine c_cond S rfl (fun bc36 => ?_) (fun bc36 => ?_)
          ·
           have c36 := bc36
           have c36 := of_decide_eq_true c36
           refine c_region ?_
           refine l_mv 1 S rfl ?_; clear S a; intro a S
           refine l_nil ?_
           refine e_then ?_
           refine wp_seq ?_
           refine c_region ?_
           refine l_mv 2 S rfl ?_; clear S a; intro a S
           have hcon := d5.shf_ wb _ B L0 hL gd E mz pz ng tz 27 (by omega) hM hG (by omega) H
           refine l_call S rfl rfl Tryz.func79 rfl rfl (hcon) rfl rfl rfl ?_
           rintro e w ⟨rfl, hH, ⟨hs1, hs2⟩, hsl, hsr⟩
           refine ⟨_, rfl, ?_⟩; clear S a; intro a S
           clear H hcon; have H := hH; clear hH
           have hs3 := hsl (by omega)
           refine l_nil ?_
           refine e_then ?_
           refine c_region ?_
           refine l_mv 2 S rfl ?_; clear S a; intro a S
           refine l_pure S (p_sub (r := (ex - 27)) rfl rfl (IntWalk.i64_in _ (by omega))) rfl rfl rfl ?_; clear S a; intro a S
           refine l_mv 1 S rfl ?_; clear S a; intro a S
           refine l_nil ?_
           refine e_in 3 ?_
           refine e_then ?_
           have hd1 := hs1.1 0 (by omega) (by omega)
           exact ⟨(fu, (ex - 27), (d5.shf 27 E mz pz tz).1, (d5.shf 27 E mz pz tz).2.1, (d5.shf 27 E mz pz tz).2.2.1, (d5.shf 27 E mz pz tz).2.2.2), ⟨S.only ⟨rfl, rfl, rfl, rfl, trivial⟩, H, by rw [← hR]; simp only [fbl2, bc26, bc32, bc34, bc36, cond_true, cond_false], by omega, ⟨hs1, hs2, by omega, by omega⟩⟩, Nat.lt_succ_self fu⟩
          ·
           have c36 := bc36
           have c36 := of_decide_eq_false c36
           refine d_start (id := 22) [] 9 #[false, false, false, false, false, false, false, false, false] H rfl rfl rfl (fun w H => ?_)
           refine d_mv [1, 2] #[false, true, true, false, false, false, false, false, false] S rfl (by kernel_rfl) (fun _ _ _ _ _ h => h) ?_; clear S a; intro a S
           obtain ⟨gt, ct, ot, ht1, ht2, ht3, ht4⟩ := hW.pwt
           refine d_read (i := 0) #[true, true, true, false, false, false, false, false, false] S H rfl (r_loadG rfl ht1 ht2 ag137) (wanted_none rfl) rfl rfl (by kernel_rfl) (fun _ _ _ h => h) ?_; clear S a; intro a S
           refine d_pure (i := 3) #[true, true, true, true, false, false, false, false, false] S rfl (p_fieldAddr rfl (fun w => fa113_2 w _ _)) (wanted_none rfl) rfl rfl (by kernel_rfl) (fun _ _ _ h => h) ?_; clear S a; intro a S
           refine d_read (i := 4) #[true, true, true, true, true, false, false, false, false] S H rfl (r_load rfl List.mem_cons_self (show _ = some (.int .i64 pz) from dec_dp) (fun w hc => ld1 ag3 hc)) (wanted_none rfl) rfl rfl (by kernel_rfl) (fun _ _ _ h => h) ?_; clear S a; intro a S
           refine d_pure (i := 5) #[true, true, true, true, true, true, false, false, false] S rfl (p_un rfl (fun w => fz.neg64 (by omega) w)) (wanted_none rfl) rfl rfl (by kernel_rfl) (fun _ _ _ h => h) ?_; clear S a; intro a S
           refine d_pure (i := 6) #[true, true, true, true, true, true, true, false, false] S rfl (p_indexAddr rfl rfl (fun w => ia_slice Tryz.underlying137 sz3 (by omega) (by omega))) (wanted_none rfl) rfl rfl (by kernel_rfl) (fun _ _ _ h => h) ?_; clear S a; intro a S
           have hpw := pwt_bd (i := ((-pz)).toNat) (by omega)
           refine d_read (i := 7) #[true, true, true, true, true, true, true, true, false] S H rfl (r_loadG rfl (show _ = some (Value.int .i64 (pwt ((-pz)).toNat)) from by rw [Nat.mul_one]; exact ht4 ((-pz)).toNat (by omega)) ht3 ag3) (wanted_none rfl) rfl rfl (by kernel_rfl) (fun _ _ _ h => h) ?_; clear S a; intro a S
           refine d_mv [8] #[true, true, true, true, true, true, true, true, true] S rfl (by kernel_rfl) (fun _ _ _ _ _ h => h) ?_; clear S a; intro a S
           refine d_done (by kernel_rfl) ?_
           refine e_then ?_
           refine wp_seq ?_
           refine c_region ?_
           refine l_mv 2 S rfl ?_; clear S a; intro a S
           have hcon := d5.shf_ wb _ B L0 hL gd E mz pz ng tz (pwt ((-pz)).toNat) (by omega) hM hG (by omega) H
           refine l_call S rfl rfl Tryz.func79 rfl rfl (hcon) rfl rfl rfl ?_
           rintro e w ⟨rfl, hH, ⟨hs1, hs2⟩, hsl, hsr⟩
           refine ⟨_, rfl, ?_⟩; clear S a; intro a S
           clear H hcon; have H := hH; clear hH
           have hs3 := hsl (by omega)
           refine l_nil ?_
           refine e_then ?_
           refine c_region ?_
           refine l_mv 2 S rfl ?_; clear S a; intro a S
           refine l_pure S (p_sub (r := (ex - (pwt ((-pz)).toNat))) rfl rfl (IntWalk.i64_in _ (by omega))) rfl rfl rfl ?_; clear S a; intro a S
           refine l_mv 1 S rfl ?_; clear S a; intro a S
           refine l_nil ?_
           refine e_in 3 ?_
           refine e_then ?_
           have hd1 := hs1.1 0 (by omega) (by omega)
           exact ⟨(fu, (ex - (pwt ((-pz)).toNat)), (d5.shf (pwt ((-pz)).toNat) E mz pz tz).1, (d5.shf (pwt ((-pz)).toNat) E mz pz tz).2.1, (d5.shf (pwt ((-pz)).toNat) E mz pz tz).2.2.1, (d5.shf (pwt ((-pz)).toNat) E mz pz tz).2.2.2), ⟨S.only ⟨rfl, rfl, rfl, rfl, trivial⟩, H, by rw [← hR]; simp only [fbl2, bc26, bc32, bc34, bc36, cond_true, cond_false], by omega, ⟨hs1, hs2, by omega, by omega⟩⟩, Nat.lt_succ_self fu⟩
         ·
          have c34 := bc34
          have c34 := of_decide_eq_false c34
          refine wp_exit ?_
          refine e_then_exit ?_
          refine e_then_exit ?_
          refine e_in_exit ?_
          refine e_then ?_
          exact ⟨ex, E, mz, pz, tz, S.only ⟨rfl, rfl, rfl, rfl, trivial⟩, H, by rw [← hR]; simp only [fbl2, bc26, bc32, bc34, cond_true, cond_false], ⟨hG, hM, by omega, by omega⟩⟩
        ·
         have c32 := bc32
         have c32 := ne_of_beq_false c32
         refine l_off S rfl rfl rfl rfl bc32 rfl rfl ?_; clear S a; intro a S
         refine l_off S rfl rfl rfl rfl bc32 rfl rfl ?_; clear S a; intro a S
         refine l_off S rfl rfl rfl rfl bc32 rfl rfl ?_; clear S a; intro a S
         refine l_off S rfl rfl rfl rfl bc32 rfl rfl ?_; clear S a; intro a S
         refine l_off S rfl rfl rfl rfl bc32 rfl rfl ?_; clear S a; intro a S
         refine l_off S rfl rfl rfl rfl bc32 rfl rfl ?_; clear S a; intro a S
         refine l_on S rfl rfl rfl rfl bc26 ?_
         refine l_pure S (p_pick_f rfl bc32 rfl) rfl rfl rfl ?_; clear S a; intro a S
         refine l_pure S (p_pick_f rfl bc26 rfl) rfl rfl rfl ?_; clear S a; intro a S
         refine l_nil ?_
         refine e_then ?_
         refine c_cond (b := false) S rfl (fun h => by cases h) (fun _ => ?_)
         refine wp_exit ?_
         refine e_then_exit ?_
         refine e_then_exit ?_
         refine e_in_exit ?_
         refine e_then ?_
         exact ⟨ex, E, mz, pz, tz, S.only ⟨rfl, rfl, rfl, rfl, trivial⟩, H, by rw [← hR]; simp only [fbl2, bc26, bc32, cond_true, cond_false], ⟨hG, hM, by omega, by omega⟩⟩
     ·
      refine wp_block ?_
      have hM : 1 ≤ nd ∧ nd ≤ 800 := by omega
      have hd00 := hg.1 0 (by omega) (by omega)
      refine c_loop (σ := Nat × Int × (Int → Int) × Int × Int × Bool) (fun s_ a w => match s_ with | (k_, ex, E, mz, pz, tz) => SL a 243 [] [(0, .pointer (some ⟨gd, 0, none⟩)), (1, .pointer (some ⟨9, 0, none⟩)), (5, .bool false), (6, .int .i64 ex)] ∧ HH B wb w ((gd, .cells (decC E mz pz ng tz) 113 (0, 0)) :: L0) ∧ (fbl1 D nd dp ng tr k_ ex E mz pz tz = R ∧ (20 * pz + E 0 + 700000).toNat < k_ ∧ (Dg E mz ∧ (1 ≤ mz ∧ mz ≤ 800) ∧ (-30000 ≤ pz ∧ pz ≤ 310) ∧ (0 ≤ ex ∧ ex + 27 * (20 * pz + E 0) ≤ 200000)))) (fun s_ => s_.1) (((20 * dp + D 0 + 700000).toNat) + 1, 0, D, nd, dp, tr) ⟨S.only ⟨rfl, rfl, rfl, rfl, trivial⟩, H, by rw [← hR]; simp only [fbt, bc10, bc12, bc14, cond_true, cond_false], by omega, ⟨hg, hM, by omega, by omega⟩⟩ ?_
      clear S a H hR; rintro ⟨fu, ex, E, mz, pz, tz⟩ a w ⟨S, H, hR, hk, hinv⟩
      obtain ⟨fu, rfl⟩ : ∃ j, fu = j + 1 := ⟨fu - 1, by omega⟩
      obtain ⟨hG, hM, hp, hx⟩ := hinv
      have hd0 := hG.1 0 (by omega) (by omega)
      refine wp_seq ?_
      refine wp_seq ?_
      refine c_region ?_
      refine l_mv 2 S rfl ?_; clear S a; intro a S
      refine l_pure S (p_fieldAddr rfl (fun w => fa113_2 w _ _)) rfl rfl rfl ?_; clear S a; intro a S
      refine l_read S H (r_load rfl List.mem_cons_self (show _ = some (.int .i64 pz) from dec_dp) (fun w hc => ld1 ag3 hc)) rfl rfl rfl ?_; clear S a; intro a S
      refine l_pure S (p_gtr rfl rfl) rfl rfl rfl ?_; clear S a; intro a S
      refine l_nil ?_
      refine e_then ?_
      refine c_cond S rfl (fun bc40 => ?_) (fun bc40 => ?_)
      ·
       have c40 := bc40
       have c40 := of_decide_eq_true c40
       refine wp_skip ?_
       refine e_then ?_
       refine wp_block ?_
       refine wp_seq ?_
       refine c_region ?_
       refine l_mv 1 S rfl ?_; clear S a; intro a S
       refine l_nil ?_
       refine e_then ?_
       refine wp_seq ?_
       refine wp_seq ?_
       refine d_start (id := 13) [] 7 #[false, false, false, false, false, false, false] H rfl rfl rfl (fun w H => ?_)
       refine d_mv [0, 1] #[true, true, false, false, false, false, false] S rfl (by kernel_rfl) (fun _ _ _ _ _ h => h) ?_; clear S a; intro a S
       refine d_pure (i := 2) #[true, true, true, false, false, false, false] S rfl (p_fieldAddr rfl (fun w => fa113_2 w _ _)) (wanted_none rfl) rfl rfl (by kernel_rfl) (fun _ _ _ h => h) ?_; clear S a; intro a S
       refine d_read (i := 3) #[true, true, true, true, false, false, false] S H rfl (r_load rfl List.mem_cons_self (show _ = some (.int .i64 pz) from dec_dp) (fun w hc => ld1 ag3 hc)) (wanted_none rfl) rfl rfl (by kernel_rfl) (fun _ _ _ h => h) ?_; clear S a; intro a S
       obtain ⟨gt, ct, ot, ht1, ht2, ht3, ht4⟩ := hW.pwt
       refine d_read (i := 4) #[true, true, true, true, true, false, false] S H rfl (r_loadG rfl ht1 ht2 ag137) (wanted_none rfl) rfl rfl (by kernel_rfl) (fun _ _ _ h => h) ?_; clear S a; intro a S
       refine d_pure (i := 5) #[true, true, true, true, true, true, false] S rfl (p_len Tryz.underlying137 rfl) (wanted_none rfl) rfl rfl (by kernel_rfl) (fun _ _ _ h => h) ?_; clear S a; intro a S
       refine d_pure (i := 6) #[true, true, true, true, true, true, true] S rfl (p_geq rfl rfl) (wanted_none rfl) rfl rfl (by kernel_rfl) (fun _ _ _ h => h) ?_; clear S a; intro a S
       refine d_done (by kernel_rfl) ?_
       refine e_then ?_
       refine c_cond S rfl (fun bc42 => ?_) (fun bc42 => ?_)
       ·
        have c42 := bc42
        have c42 := of_decide_eq_true c42
        refine c_region ?_
        refine l_mv 1 S rfl ?_; clear S a; intro a S
        refine l_nil ?_
        refine e_then ?_
        refine wp_seq ?_
        refine c_region ?_
        refine l_mv 2 S rfl ?_; clear S a; intro a S
        refine l_pure S (p_un rfl (fun w => fz.neg64 (by decide) w)) rfl rfl rfl ?_; clear S a; intro a S
        have hcon := d5.shf_ wb _ B L0 hL gd E mz pz ng tz (-27) (by omega) hM hG (by omega) H
        refine l_call S rfl rfl Tryz.func79 rfl rfl (hcon) rfl rfl rfl ?_
        rintro e w ⟨rfl, hH, ⟨hs1, hs2⟩, hsl, hsr⟩
        refine ⟨_, rfl, ?_⟩; clear S a; intro a S
        clear H hcon; have H := hH; clear hH
        have hs3 := hsr (by omega)
        refine l_nil ?_
        refine e_then ?_
        refine c_region ?_
        refine l_mv 2 S rfl ?_; clear S a; intro a S
        refine l_pure S (p_add (r := (ex + 27)) rfl rfl (IntWalk.i64_in _ (by omega))) rfl rfl rfl ?_; clear S a; intro a S
        refine l_mv 1 S rfl ?_; clear S a; intro a S
        refine l_nil ?_
        refine e_in 1 ?_
        refine e_then ?_
        have hd1 := hs1.1 0 (by omega) (by omega)
        exact ⟨(fu, (ex + 27), (d5.shf (-27) E mz pz tz).1, (d5.shf (-27) E mz pz tz).2.1, (d5.shf (-27) E mz pz tz).2.2.1, (d5.shf (-27) E mz pz tz).2.2.2), ⟨S.only ⟨rfl, rfl, rfl, rfl, trivial⟩, H, by rw [← hR]; simp only [fbl1, bc40, bc42, cond_true, cond_false], by omega, ⟨hs1, hs2, by omega, by omega⟩⟩, Nat.lt_succ_self fu⟩
       ·
        have c42 := bc42
        have c42 := of_decide_eq_false c42
        refine d_start (id := 15) [] 8 #[false, false, false, false, false, false, false, false] H rfl rfl rfl (fun w H => ?_)
        refine d_mv [1, 2] #[false, true, true, false, false, false, false, false] S rfl (by kernel_rfl) (fun _ _ _ _ _ h => h) ?_; clear S a; intro a S
        obtain ⟨gt, ct, ot, ht1, ht2, ht3, ht4⟩ := hW.pwt
        refine d_read (i := 0) #[true, true, true, false, false, false, false, false] S H rfl (r_loadG rfl ht1 ht2 ag137) (wanted_none rfl) rfl rfl (by kernel_rfl) (fun _ _ _ h => h) ?_; clear S a; intro a S
        refine d_pure (i := 3) #[true, true, true, true, false, false, false, false] S rfl (p_fieldAddr rfl (fun w => fa113_2 w _ _)) (wanted_none rfl) rfl rfl (by kernel_rfl) (fun _ _ _ h => h) ?_; clear S a; intro a S
        refine d_read (i := 4) #[true, true, true, true, true, false, false, false] S H rfl (r_load rfl List.mem_cons_self (show _ = some (.int .i64 pz) from dec_dp) (fun w hc => ld1 ag3 hc)) (wanted_none rfl) rfl rfl (by kernel_rfl) (fun _ _ _ h => h) ?_; clear S a; intro a S
        refine d_pure (i := 5) #[true, true, true, true, true, true, false, false] S rfl (p_indexAddr rfl rfl (fun w => ia_slice Tryz.underlying137 sz3 (by omega) (by omega))) (wanted_none rfl) rfl rfl (by kernel_rfl) (fun _ _ _ h => h) ?_; clear S a; intro a S
        have hpw := pwt_bd (i := (pz).toNat) (by omega)
        refine d_read (i := 6) #[true, true, true, true, true, true, true, false] S H rfl (r_loadG rfl (show _ = some (Value.int .i64 (pwt (pz).toNat)) from by rw [Nat.mul_one]; exact ht4 (pz).toNat (by omega)) ht3 ag3) (wanted_none rfl) rfl rfl (by kernel_rfl) (fun _ _ _ h => h) ?_; clear S a; intro a S
        refine d_mv [7] #[true, true, true, true, true, true, true, true] S rfl (by kernel_rfl) (fun _ _ _ _ _ h => h) ?_; clear S a; intro a S
        refine d_done (by kernel_rfl) ?_
        refine e_then ?_
        refine wp_seq ?_
        refine c_region ?_
        refine l_mv 2 S rfl ?_; clear S a; intro a S
        refine l_pure S (p_un rfl (fun w => fz.neg64 (by omega) w)) rfl rfl rfl ?_; clear S a; intro a S
        have hcon := d5.shf_ wb _ B L0 hL gd E mz pz ng tz (-(pwt (pz).toNat)) (by omega) hM hG (by omega) H
        refine l_call S rfl rfl Tryz.func79 rfl rfl (hcon) rfl rfl rfl ?_
        rintro e w ⟨rfl, hH, ⟨hs1, hs2⟩, hsl, hsr⟩
        refine ⟨_, rfl, ?_⟩; clear S a; intro a S
        clear H hcon; have H := hH; clear hH
        have hs3 := hsr (by omega)
        refine l_nil ?_
        refine e_then ?_
        refine c_region ?_
        refine l_mv 2 S rfl ?_; clear S a; intro a S
        refine l_pure S (p_add (r := (ex + (pwt (pz).toNat))) rfl rfl (IntWalk.i64_in _ (by omega))) rfl rfl rfl ?_; clear S a; intro a S
        refine l_mv 1 S rfl ?_; clear S a; intro a S
        refine l_nil ?_
        refine e_in 1 ?_
        refine e_then ?_
        have hd1 := hs1.1 0 (by omega) (by omega)
        exact ⟨(fu, (ex + (pwt (pz).toNat)), (d5.shf (-(pwt (pz).toNat)) E mz pz tz).1, (d5.shf (-(pwt (pz).toNat)) E mz pz tz).2.1, (d5.shf (-(pwt (pz).toNat)) E mz pz tz).2.2.1, (d5.shf (-(pwt (pz).toNat)) E mz pz tz).2.2.2), ⟨S.only ⟨rfl, rfl, rfl, rfl, trivial⟩, H, by rw [← hR]; simp only [fbl1, bc40, bc42, cond_true, cond_false], by omega, ⟨hs1, hs2, by omega, by omega⟩⟩, Nat.lt_succ_self fu⟩
      ·
       have c40 := bc40
       have c40 := of_decide_eq_false c40
       refine wp_exit ?_
       refine e_then_exit ?_
       refine e_then_exit ?_
       refine e_in_exit ?_
       refine e_then ?_
       exact ⟨ex, E, mz, pz, tz, S.only ⟨rfl, rfl, rfl, rfl, trivial⟩, H, by rw [← hR]; simp only [fbl1, bc40, cond_true, cond_false], ⟨hG, hM, by omega, by omega⟩⟩
end d6
end Go.Proofs.YtneoieigaakoaaaGreatDoor.pf
end
section
namespace Go.Proofs.YtneoieigaakoaaaGreatDoor.pf
open Go.Proofs.YtneoieigaakoaaaGreatDoor.fx
open Go.RowKit Go.Proofs.HHW Go.Proofs.YtneoieigaakoaaaGreatDoorW.PrintWords
namespace pr
theorem zvd : zvB Tryz.prog 113 = some (.agg (decC Z0 0 0 false false)) := by kernel_rfl
def Er (e : Option Int) : Prop := e = none ∨ e = some 1 ∨ e = some 2
theorem or2 {e : Option Int} (h : e = none ∨ e = some 1) : Er e := h.elim .inl fun h => .inr (.inl h)
def a64 (s : ByteArray) : Nat × Int × Option Int := (bif (s2.spc s).2.2 then (((s2.spc s).1), ((s2.spc s).2.1), none) else (bif (!(rd.rf s).2.2.2.2.2.2) then (0, ((rd.rf s).2.2.2.2.2.1), (some 2)) else (bif (rd.rf s).2.2.2.2.1 then (((s5.hex (rd.rf s).1 (rd.rf s).2.1 (rd.rf s).2.2.1 (rd.rf s).2.2.2.1).1), ((rd.rf s).2.2.2.2.2.1), ((s5.hex (rd.rf s).1 (rd.rf s).2.1 (rd.rf s).2.2.1 (rd.rf s).2.2.2.1).2)) else (bif ((((rd.rf s).1).toNat : Int) == 0) then ((((((fz.b2 (rd.rf s).2.2.1) <<< (63 : Nat)) ||| 0#64)).toNat), ((rd.rf s).2.2.2.2.2.1), none) else (bif (decide ((rd.rf s).2.1 > 310)) then ((((((fz.b2 (rd.rf s).2.2.1) <<< (63 : Nat)) ||| 9218868437227405312#64)).toNat), ((rd.rf s).2.2.2.2.2.1), (some 1)) else (bif (decide ((rd.rf s).2.1 < (-345))) then ((((((fz.b2 (rd.rf s).2.2.1) <<< (63 : Nat)) ||| 0#64)).toNat), ((rd.rf s).2.2.2.2.2.1), none) else (bif (!(rd.rf s).2.2.2.1) then (bif (s4.exa (rd.rf s).1 (rd.rf s).2.1 (rd.rf s).2.2.1).2 then (((s4.exa (rd.rf s).1 (rd.rf s).2.1 (rd.rf s).2.2.1).1), ((rd.rf s).2.2.2.2.2.1), none) else (((s3.pf64 (rd.rf s).1 (rd.rf s).2.1 ((fz.b2 (rd.rf s).2.2.1) <<< (63 : Nat))).1), ((rd.rf s).2.2.2.2.2.1), ((s3.pf64 (rd.rf s).1 (rd.rf s).2.1 ((fz.b2 (rd.rf s).2.2.1) <<< (63 : Nat))).2))) else (bif (fl.eq (s3.pf64 (rd.rf s).1 (rd.rf s).2.1 ((fz.b2 (rd.rf s).2.2.1) <<< (63 : Nat))).1 (s3.pf64 ((rd.rf s).1 + 1#64) (rd.rf s).2.1 ((fz.b2 (rd.rf s).2.2.1) <<< (63 : Nat))).1) then (((s3.pf64 (rd.rf s).1 (rd.rf s).2.1 ((fz.b2 (rd.rf s).2.2.1) <<< (63 : Nat))).1), ((rd.rf s).2.2.2.2.2.1), ((s3.pf64 (rd.rf s).1 (rd.rf s).2.1 ((fz.b2 (rd.rf s).2.2.1) <<< (63 : Nat))).2)) else (bif (!(d2.dset (s.extract 0 ((rd.rf s).2.2.2.2.2.1 : Int).toNat)).2.2.2.2.2) then (0, ((rd.rf s).2.2.2.2.2.1), (some 2)) else (bif (d6.fbt ((d2.dset (s.extract 0 ((rd.rf s).2.2.2.2.2.1 : Int).toNat)).1) ((d2.dset (s.extract 0 ((rd.rf s).2.2.2.2.2.1 : Int).toNat)).2.1) ((d2.dset (s.extract 0 ((rd.rf s).2.2.2.2.2.1 : Int).toNat)).2.2.1) ((d2.dset (s.extract 0 ((rd.rf s).2.2.2.2.2.1 : Int).toNat)).2.2.2.1) ((d2.dset (s.extract 0 ((rd.rf s).2.2.2.2.2.1 : Int).toNat)).2.2.2.2.1)).2 then ((((d6.fbt ((d2.dset (s.extract 0 ((rd.rf s).2.2.2.2.2.1 : Int).toNat)).1) ((d2.dset (s.extract 0 ((rd.rf s).2.2.2.2.2.1 : Int).toNat)).2.1) ((d2.dset (s.extract 0 ((rd.rf s).2.2.2.2.2.1 : Int).toNat)).2.2.1) ((d2.dset (s.extract 0 ((rd.rf s).2.2.2.2.2.1 : Int).toNat)).2.2.2.1) ((d2.dset (s.extract 0 ((rd.rf s).2.2.2.2.2.1 : Int).toNat)).2.2.2.2.1)).1).toNat), ((rd.rf s).2.2.2.2.2.1), (some 1)) else ((((d6.fbt ((d2.dset (s.extract 0 ((rd.rf s).2.2.2.2.2.1 : Int).toNat)).1) ((d2.dset (s.extract 0 ((rd.rf s).2.2.2.2.2.1 : Int).toNat)).2.1) ((d2.dset (s.extract 0 ((rd.rf s).2.2.2.2.2.1 : Int).toNat)).2.2.1) ((d2.dset (s.extract 0 ((rd.rf s).2.2.2.2.2.1 : Int).toNat)).2.2.2.1) ((d2.dset (s.extract 0 ((rd.rf s).2.2.2.2.2.1 : Int).toNat)).2.2.2.2.1)).1).toNat), ((rd.rf s).2.2.2.2.2.1), none)))))))))))
set_option maxHeartbeats 2000000 in
theorem a64_ (wb w0 : World) (B : Nat) (L0 : List (Nat × Obj)) (hT : fz.PTab 13 B wb) (hW : PW 8 9 7 12 11 14 B wb) (hL : PL 14 B wb) (s : ByteArray) (hs : s.size ≤ 1000000) (H : HH B wb w0 L0) : Calls Tryz.prog 47 #[.string s] w0 fun e w' => e = .returned (.tuple #[.float .f64 (a64 s).1, .int .i64 (a64 s).2.1, errV 73 (a64 s).2.2]) ∧ HH B wb w' L0 ∧ Er (a64 s).2.2 := by
 generalize hR : a64 s = R
 refine c_enter (args := [.string s]) (k := 142) Tryz.func47 rfl rfl rfl (fun a S => ?_)
 refine wp_seq ?_
 refine c_region ?_
 refine l_mv 3 S rfl ?_; clear S a; intro a S
 refine l_nil ?_
 refine e_then ?_
 refine wp_seq ?_
 refine wp_seq ?_
 refine c_region ?_
 refine l_mv 1 S rfl ?_; clear S a; intro a S
 have hcon := s2.spc_ wb _ B _ s (by omega) H
 refine l_call S rfl rfl Tryz.func52 rfl rfl (hcon) rfl rfl rfl ?_
 rintro e w ⟨rfl, hH, hsp⟩
 refine ⟨_, rfl, ?_⟩; clear S a; intro a S
 clear H hcon; have H := hH; clear hH
 refine l_mv 7 S rfl ?_; clear S a; intro a S
 refine l_nil ?_
 refine e_then ?_
 refine wp_seq ?_
 refine c_region ?_
 refine l_mv 1 S rfl ?_; clear S a; intro a S
 refine l_nil ?_
 refine e_then ?_
 refine c_cond S rfl (fun bc2 => ?_) (fun bc2 => ?_)
 ·
  have c2 := bc2
  refine wp_seq ?_
  refine c_region ?_
  refine l_mv 5 S rfl ?_; clear S a; intro a S
  refine l_nil ?_
  refine e_then ?_
  refine wp_ret ?_
  refine e_then_ret ?_
  have eR : R = (((s2.spc s).1), ((s2.spc s).2.1), none) := by rw [← hR]; simp only [a64, bc2, cond_true, cond_false]
  clear hR; subst eR
  exact r_ret3 S rfl rfl rfl rfl ⟨rfl, H, by first | exact .inl rfl | exact .inr (.inl rfl) | exact .inr (.inr rfl) | exact or2 hpe | exact or2 hpx | exact or2 hpy⟩
 ·
  have c2 := bc2
  refine wp_skip ?_
  refine e_then ?_
  refine wp_seq ?_
  refine c_region ?_
  refine l_mv 1 S rfl ?_; clear S a; intro a S
  have hcon := rd.rf_ wb _ B _ s (by omega) H
  refine l_call S rfl rfl Tryz.func53 rfl rfl (hcon) rfl rfl rfl ?_
  rintro e w ⟨rfl, hH, hrx, hri⟩
  refine ⟨_, rfl, ?_⟩; clear S a; intro a S
  clear H hcon; have H := hH; clear hH
  refine l_mv 15 S rfl ?_; clear S a; intro a S
  refine l_nil ?_
  refine e_then ?_
  refine wp_seq ?_
  refine wp_seq ?_
  refine c_region ?_
  refine l_mv 1 S rfl ?_; clear S a; intro a S
  refine l_pure S (p_not rfl) rfl rfl rfl ?_; clear S a; intro a S
  refine l_nil ?_
  refine e_then ?_
  refine c_cond S rfl (fun bc8 => ?_) (fun bc8 => ?_)
  ·
   have c8 := bc8
   replace c8 := not_eq_true_ c8
   refine wp_seq ?_
   refine c_region ?_
   refine l_mv 1 S rfl ?_; clear S a; intro a S
   refine l_pure S (p_iface rfl (fun w => mk73 w _)) rfl rfl rfl ?_; clear S a; intro a S
   refine l_mv 3 S rfl ?_; clear S a; intro a S
   refine l_nil ?_
   refine e_then ?_
   refine wp_ret ?_
   refine e_then_ret ?_
   have eR : R = (0, ((rd.rf s).2.2.2.2.2.1), (some 2)) := by rw [← hR]; simp only [a64, bc2, bc8, cond_true, cond_false]
   clear hR; subst eR
   exact r_ret3 S rfl rfl rfl rfl ⟨rfl, H, by first | exact .inl rfl | exact .inr (.inl rfl) | exact .inr (.inr rfl) | exact or2 hpe | exact or2 hpx | exact or2 hpy⟩
  ·
   have c8 := bc8
   replace c8 := not_eq_false_ c8
   refine wp_skip ?_
   refine e_then ?_
   refine wp_seq ?_
   refine wp_seq ?_
   refine c_region ?_
   refine l_mv 1 S rfl ?_; clear S a; intro a S
   refine l_nil ?_
   refine e_then ?_
   refine c_cond S rfl (fun bc9 => ?_) (fun bc9 => ?_)
   ·
    have c9 := bc9
    refine wp_seq ?_
    refine c_region ?_
    refine l_mv 2 S rfl ?_; clear S a; intro a S
    refine l_pure S (p_slice rfl (fun _ _ => o_none) (o_some rfl) (fun _ _ => o_none) (fun w => sl_string_hi Tryz.underlying9 (by omega) (by omega))) rfl rfl rfl ?_; clear S a; intro a S
    refine l_mv 4 S rfl ?_; clear S a; intro a S
    have hcon := s5.hex_ wb _ B _ hW (s.extract 0 ((rd.rf s).2.2.2.2.2.1 : Int).toNat) (rd.rf s).1 (rd.rf s).2.1 (rd.rf s).2.2.1 (rd.rf s).2.2.2.1 (by omega) H
    refine l_call S rfl rfl Tryz.func54 rfl rfl (hcon) rfl rfl rfl ?_
    rintro e w ⟨rfl, hH, hpe⟩
    refine ⟨_, rfl, ?_⟩; clear S a; intro a S
    clear H hcon; have H := hH; clear hH
    refine l_mv 5 S rfl ?_; clear S a; intro a S
    refine l_nil ?_
    refine e_then ?_
    refine wp_seq ?_
    refine c_region ?_
    refine l_mv 6 S rfl ?_; clear S a; intro a S
    refine l_nil ?_
    refine e_then ?_
    refine wp_ret ?_
    refine e_then_ret ?_
    have eR : R = (((s5.hex (rd.rf s).1 (rd.rf s).2.1 (rd.rf s).2.2.1 (rd.rf s).2.2.2.1).1), ((rd.rf s).2.2.2.2.2.1), ((s5.hex (rd.rf s).1 (rd.rf s).2.1 (rd.rf s).2.2.1 (rd.rf s).2.2.2.1).2)) := by rw [← hR]; simp only [a64, bc2, bc8, bc9, cond_true, cond_false]
    clear hR; subst eR
    exact r_ret3 S rfl rfl rfl rfl ⟨rfl, H, by first | exact .inl rfl | exact .inr (.inl rfl) | exact .inr (.inr rfl) | exact or2 hpe | exact or2 hpx | exact or2 hpy⟩
   ·
    have c9 := bc9
    refine wp_skip ?_
    refine e_then ?_
    refine wp_seq ?_
    refine wp_seq ?_
    refine c_region ?_
    refine l_read S H (r_loadG rfl hW.opt.1 hW.opt.2 ag4) rfl rfl rfl ?_; clear S a; intro a S
    refine l_nil ?_
    refine e_then ?_
    refine c_cond (b := true) S rfl (fun _ => ?_) (fun h => by cases h)
    refine wp_seq ?_
    refine c_region ?_
    refine l_mv 1 S rfl ?_; clear S a; intro a S
    have hcon := fz.sm.b2u_ wb _ B _ (rd.rf s).2.2.1 H
    refine l_call S rfl rfl Tryz.func61 rfl rfl (hcon) rfl rfl rfl ?_
    rintro e w ⟨rfl, hH⟩
    refine ⟨_, rfl, ?_⟩; clear S a; intro a S
    clear H hcon; have H := hH; clear hH
    refine l_pure S (p_shl rfl rfl (by decide) (shl64 (fz.b2 (rd.rf s).2.2.1) (n := (63 : Nat)) rfl (by decide))) rfl rfl rfl ?_; clear S a; intro a S
    refine l_mv 1 S rfl ?_; clear S a; intro a S
    refine l_nil ?_
    refine e_then ?_
    refine wp_seq ?_
    refine wp_seq ?_
    refine c_region ?_
    refine l_mv 1 S rfl ?_; clear S a; intro a S
    refine l_pure S (p_eql rfl rfl) rfl rfl rfl ?_; clear S a; intro a S
    refine l_nil ?_
    refine e_then ?_
    refine c_cond S rfl (fun bc13 => ?_) (fun bc13 => ?_)
    ·
     have c13 := bc13
     have c13 := eq_of_beq c13
     refine wp_seq ?_
     refine c_region ?_
     refine l_mv 1 S rfl ?_; clear S a; intro a S
     refine l_pure S (p_or rfl rfl (or64 ((fz.b2 (rd.rf s).2.2.1) <<< (63 : Nat)) 0#64)) rfl rfl rfl ?_; clear S a; intro a S
     refine l_pure S (p_ext (v := .float .f64 ((((fz.b2 (rd.rf s).2.2.1) <<< (63 : Nat)) ||| 0#64)).toNat) rfl (fun w => fb_run (((fz.b2 (rd.rf s).2.2.1) <<< (63 : Nat)) ||| 0#64) w)) rfl rfl rfl ?_; clear S a; intro a S
     refine l_mv 4 S rfl ?_; clear S a; intro a S
     refine l_nil ?_
     refine e_then ?_
     refine wp_ret ?_
     refine e_then_ret ?_
     refine e_then_ret ?_
     have eR : R = ((((((fz.b2 (rd.rf s).2.2.1) <<< (63 : Nat)) ||| 0#64)).toNat), ((rd.rf s).2.2.2.2.2.1), none) := by rw [← hR]; simp only [a64, bc2, bc8, bc9, bc13, cond_true, cond_false]
     clear hR; subst eR
     exact r_ret3 S rfl rfl rfl rfl ⟨rfl, H, by first | exact .inl rfl | exact .inr (.inl rfl) | exact .inr (.inr rfl) | exact or2 hpe | exact or2 hpx | exact or2 hpy⟩
    ·
     have c13 := bc13
     have c13 := ne_of_beq_false c13
     refine wp_skip ?_
     refine e_then ?_
     refine wp_seq ?_
     refine wp_seq ?_
     refine c_region ?_
     refine l_mv 1 S rfl ?_; clear S a; intro a S
     refine l_pure S (p_gtr rfl rfl) rfl rfl rfl ?_; clear S a; intro a S
     refine l_nil ?_
     refine e_then ?_
     refine c_cond S rfl (fun bc15 => ?_) (fun bc15 => ?_)
     ·
      have c15 := bc15
      have c15 := of_decide_eq_true c15
      refine wp_seq ?_
      refine c_region ?_
      refine l_mv 1 S rfl ?_; clear S a; intro a S
      refine l_pure S (p_or rfl rfl (or64 ((fz.b2 (rd.rf s).2.2.1) <<< (63 : Nat)) 9218868437227405312#64)) rfl rfl rfl ?_; clear S a; intro a S
      refine l_pure S (p_ext (v := .float .f64 ((((fz.b2 (rd.rf s).2.2.1) <<< (63 : Nat)) ||| 9218868437227405312#64)).toNat) rfl (fun w => fb_run (((fz.b2 (rd.rf s).2.2.1) <<< (63 : Nat)) ||| 9218868437227405312#64) w)) rfl rfl rfl ?_; clear S a; intro a S
      refine l_mv 1 S rfl ?_; clear S a; intro a S
      refine l_pure S (p_iface rfl (fun w => mk73 w _)) rfl rfl rfl ?_; clear S a; intro a S
      refine l_mv 3 S rfl ?_; clear S a; intro a S
      refine l_nil ?_
      refine e_then ?_
      refine wp_ret ?_
      refine e_then_ret ?_
      refine e_then_ret ?_
      have eR : R = ((((((fz.b2 (rd.rf s).2.2.1) <<< (63 : Nat)) ||| 9218868437227405312#64)).toNat), ((rd.rf s).2.2.2.2.2.1), (some 1)) := by rw [← hR]; simp only [a64, bc2, bc8, bc9, bc13, bc15, cond_true, cond_false]
      clear hR; subst eR
      exact r_ret3 S rfl rfl rfl rfl ⟨rfl, H, by first | exact .inl rfl | exact .inr (.inl rfl) | exact .inr (.inr rfl) | exact or2 hpe | exact or2 hpx | exact or2 hpy⟩
     ·
      have c15 := bc15
      have c15 := of_decide_eq_false c15
      refine wp_skip ?_
      refine e_then ?_
      refine wp_seq ?_
      refine wp_seq ?_
      refine c_region ?_
      refine l_mv 1 S rfl ?_; clear S a; intro a S
      refine l_pure S (p_lss rfl rfl) rfl rfl rfl ?_; clear S a; intro a S
      refine l_nil ?_
      refine e_then ?_
      refine c_cond S rfl (fun bc17 => ?_) (fun bc17 => ?_)
      ·
       have c17 := bc17
       have c17 := of_decide_eq_true c17
       refine wp_seq ?_
       refine c_region ?_
       refine l_mv 1 S rfl ?_; clear S a; intro a S
       refine l_pure S (p_or rfl rfl (or64 ((fz.b2 (rd.rf s).2.2.1) <<< (63 : Nat)) 0#64)) rfl rfl rfl ?_; clear S a; intro a S
       refine l_pure S (p_ext (v := .float .f64 ((((fz.b2 (rd.rf s).2.2.1) <<< (63 : Nat)) ||| 0#64)).toNat) rfl (fun w => fb_run (((fz.b2 (rd.rf s).2.2.1) <<< (63 : Nat)) ||| 0#64) w)) rfl rfl rfl ?_; clear S a; intro a S
       refine l_mv 4 S rfl ?_; clear S a; intro a S
       refine l_nil ?_
       refine e_then ?_
       refine wp_ret ?_
       refine e_then_ret ?_
       refine e_then_ret ?_
       have eR : R = ((((((fz.b2 (rd.rf s).2.2.1) <<< (63 : Nat)) ||| 0#64)).toNat), ((rd.rf s).2.2.2.2.2.1), none) := by rw [← hR]; simp only [a64, bc2, bc8, bc9, bc13, bc15, bc17, cond_true, cond_false]
       clear hR; subst eR
       exact r_ret3 S rfl rfl rfl rfl ⟨rfl, H, by first | exact .inl rfl | exact .inr (.inl rfl) | exact .inr (.inr rfl) | exact or2 hpe | exact or2 hpx | exact or2 hpy⟩
      ·
       have c17 := bc17
       have c17 := of_decide_eq_false c17
       refine wp_skip ?_
       refine e_then ?_
       refine wp_seq ?_
       refine wp_seq ?_
       refine c_region ?_
       refine l_mv 1 S rfl ?_; clear S a; intro a S
       refine l_pure S (p_not rfl) rfl rfl rfl ?_; clear S a; intro a S
       refine l_nil ?_
       refine e_then ?_
       refine c_cond S rfl (fun bc19 => ?_) (fun bc19 => ?_)
       ·
        have c19 := bc19
        replace c19 := not_eq_true_ c19
        refine wp_seq ?_
        refine c_region ?_
        refine l_mv 3 S rfl ?_; clear S a; intro a S
        have hcon := s4.exa_ wb _ B _ hW (rd.rf s).1 (rd.rf s).2.1 (rd.rf s).2.2.1 (by omega) H
        refine l_call S rfl rfl Tryz.func63 rfl rfl (hcon) rfl rfl rfl ?_
        rintro e w ⟨rfl, hH⟩
        refine ⟨_, rfl, ?_⟩; clear S a; intro a S
        clear H hcon; have H := hH; clear hH
        refine l_mv 5 S rfl ?_; clear S a; intro a S
        refine l_nil ?_
        refine e_then ?_
        refine wp_seq ?_
        refine c_region ?_
        refine l_mv 1 S rfl ?_; clear S a; intro a S
        refine l_nil ?_
        refine e_then ?_
        refine c_cond S rfl (fun bc21 => ?_) (fun bc21 => ?_)
        ·
         have c21 := bc21
         refine wp_seq ?_
         refine c_region ?_
         refine l_mv 5 S rfl ?_; clear S a; intro a S
         refine l_nil ?_
         refine e_then ?_
         refine wp_ret ?_
         refine e_then_ret ?_
         refine e_then_ret ?_
         have eR : R = (((s4.exa (rd.rf s).1 (rd.rf s).2.1 (rd.rf s).2.2.1).1), ((rd.rf s).2.2.2.2.2.1), none) := by rw [← hR]; simp only [a64, bc2, bc8, bc9, bc13, bc15, bc17, bc19, bc21, cond_true, cond_false]
         clear hR; subst eR
         exact r_ret3 S rfl rfl rfl rfl ⟨rfl, H, by first | exact .inl rfl | exact .inr (.inl rfl) | exact .inr (.inr rfl) | exact or2 hpe | exact or2 hpx | exact or2 hpy⟩
        ·
         have c21 := bc21
         refine wp_skip ?_
         refine e_then ?_
         refine wp_seq ?_
         refine c_region ?_
         refine l_mv 3 S rfl ?_; clear S a; intro a S
         have hcon := s3.pf64_ wb _ B _ hT (rd.rf s).1 (rd.rf s).2.1 ((fz.b2 (rd.rf s).2.2.1) <<< (63 : Nat)) (by omega) H
         refine l_call S rfl rfl Tryz.func64 rfl rfl (hcon) rfl rfl rfl ?_
         rintro e w ⟨rfl, hH, hpx⟩
         refine ⟨_, rfl, ?_⟩; clear S a; intro a S
         clear H hcon; have H := hH; clear hH
         refine l_mv 5 S rfl ?_; clear S a; intro a S
         refine l_nil ?_
         refine e_then ?_
         refine wp_seq ?_
         refine wp_seq ?_
         refine c_region ?_
         refine l_mv 1 S rfl ?_; clear S a; intro a S
         refine l_pure S (p_not rfl) rfl rfl rfl ?_; clear S a; intro a S
         refine l_nil ?_
         refine e_then ?_
         refine c_cond S rfl (fun _ => ?_) (fun h => by rw [(show (!(rd.rf s).2.2.2.1) = true from by rw [show (rd.rf s).2.2.2.1 = false from (not_eq_true_ bc19)]; rfl)] at h; cases h)
         refine wp_seq ?_
         refine c_region ?_
         refine l_mv 6 S rfl ?_; clear S a; intro a S
         refine l_nil ?_
         refine e_then ?_
         refine wp_ret ?_
         refine e_then_ret ?_
         refine e_then_ret ?_
         have eR : R = (((s3.pf64 (rd.rf s).1 (rd.rf s).2.1 ((fz.b2 (rd.rf s).2.2.1) <<< (63 : Nat))).1), ((rd.rf s).2.2.2.2.2.1), ((s3.pf64 (rd.rf s).1 (rd.rf s).2.1 ((fz.b2 (rd.rf s).2.2.1) <<< (63 : Nat))).2)) := by rw [← hR]; simp only [a64, bc2, bc8, bc9, bc13, bc15, bc17, bc19, bc21, cond_true, cond_false]
         clear hR; subst eR
         exact r_ret3 S rfl rfl rfl rfl ⟨rfl, H, by first | exact .inl rfl | exact .inr (.inl rfl) | exact .inr (.inr rfl) | exact or2 hpe | exact or2 hpx | exact or2 hpy⟩
       ·
        have c19 := bc19
        replace c19 := not_eq_false_ c19
        refine wp_skip ?_
        refine e_then ?_
        refine wp_seq ?_
        refine c_region ?_
        refine l_mv 3 S rfl ?_; clear S a; intro a S
        have hcon := s3.pf64_ wb _ B _ hT (rd.rf s).1 (rd.rf s).2.1 ((fz.b2 (rd.rf s).2.2.1) <<< (63 : Nat)) (by omega) H
        refine l_call S rfl rfl Tryz.func64 rfl rfl (hcon) rfl rfl rfl ?_
        rintro e w ⟨rfl, hH, hpx⟩
        refine ⟨_, rfl, ?_⟩; clear S a; intro a S
        clear H hcon; have H := hH; clear hH
        refine l_mv 5 S rfl ?_; clear S a; intro a S
        refine l_nil ?_
        refine e_then ?_
        refine wp_seq ?_
        refine wp_seq ?_
        refine c_region ?_
        refine l_mv 1 S rfl ?_; clear S a; intro a S
        refine l_pure S (p_not rfl) rfl rfl rfl ?_; clear S a; intro a S
        refine l_nil ?_
        refine e_then ?_
        refine c_cond S rfl (fun h => by rw [(show (!(rd.rf s).2.2.2.1) = false from by rw [show (rd.rf s).2.2.2.1 = true from (not_eq_false_ bc19)]; rfl)] at h; cases h) (fun _ => ?_)
        refine wp_skip ?_
        refine e_then ?_
        refine wp_seq ?_
        refine c_region ?_
        refine l_mv 1 S rfl ?_; clear S a; intro a S
        refine l_pure S (p_add rfl rfl (add64 (rd.rf s).1 1#64)) rfl rfl rfl ?_; clear S a; intro a S
        refine l_mv 2 S rfl ?_; clear S a; intro a S
        have hcon := s3.pf64_ wb _ B _ hT ((rd.rf s).1 + 1#64) (rd.rf s).2.1 ((fz.b2 (rd.rf s).2.2.1) <<< (63 : Nat)) (by omega) H
        refine l_call S rfl rfl Tryz.func64 rfl rfl (hcon) rfl rfl rfl ?_
        rintro e w ⟨rfl, hH, hpy⟩
        refine ⟨_, rfl, ?_⟩; clear S a; intro a S
        clear H hcon; have H := hH; clear hH
        refine l_mv 5 S rfl ?_; clear S a; intro a S
        refine l_nil ?_
        refine e_then ?_
        refine wp_seq ?_
        refine c_region ?_
        refine l_mv 2 S rfl ?_; clear S a; intro a S
        refine l_pure S (p_feql rfl rfl) rfl rfl rfl ?_; clear S a; intro a S
        refine l_nil ?_
        refine e_then ?_
        refine c_cond S rfl (fun bc27 => ?_) (fun bc27 => ?_)
        ·
         have c27 := bc27
         refine wp_seq ?_
         refine c_region ?_
         refine l_mv 6 S rfl ?_; clear S a; intro a S
         refine l_nil ?_
         refine e_then ?_
         refine wp_ret ?_
         refine e_then_ret ?_
         have eR : R = (((s3.pf64 (rd.rf s).1 (rd.rf s).2.1 ((fz.b2 (rd.rf s).2.2.1) <<< (63 : Nat))).1), ((rd.rf s).2.2.2.2.2.1), ((s3.pf64 (rd.rf s).1 (rd.rf s).2.1 ((fz.b2 (rd.rf s).2.2.1) <<< (63 : Nat))).2)) := by rw [← hR]; simp only [a64, bc2, bc8, bc9, bc13, bc15, bc17, bc19, bc27, cond_true, cond_false]
         clear hR; subst eR
         exact r_ret3 S rfl rfl rfl rfl ⟨rfl, H, by first | exact .inl rfl | exact .inr (.inl rfl) | exact .inr (.inr rfl) | exact or2 hpe | exact or2 hpx | exact or2 hpy⟩
        ·
         have c27 := bc27
         refine wp_skip ?_
         refine e_then ?_
         refine wp_seq ?_
         refine c_region ?_
         refine l_alloc (cs := decC Z0 0 0 false false) S H rfl (fun w => al_dec zvd w) rfl rfl rfl ?_; clear S a H; intro gd w a H S
         refine l_nil ?_
         refine e_then ?_
         refine wp_seq ?_
         refine wp_seq ?_
         refine c_region ?_
         refine l_mv 2 S rfl ?_; clear S a; intro a S
         refine l_pure S (p_slice rfl (fun _ _ => o_none) (o_some rfl) (fun _ _ => o_none) (fun w => sl_string_hi Tryz.underlying9 (by omega) (by omega))) rfl rfl rfl ?_; clear S a; intro a S
         have hcon := d2.dset_ wb _ B L0 gd (s.extract 0 ((rd.rf s).2.2.2.2.2.1 : Int).toNat) (by rw [ByteArray.size_extract]; omega) H
         refine l_call S rfl rfl Tryz.func59 rfl rfl (hcon) rfl rfl rfl ?_
         rintro e w ⟨rfl, hH, hdg, hdn, hdp⟩
         refine ⟨_, rfl, ?_⟩; clear S a; intro a S
         clear H hcon; have H := hH; clear hH
         refine l_pure S (p_not rfl) rfl rfl rfl ?_; clear S a; intro a S
         refine l_nil ?_
         refine e_then ?_
         refine c_cond S rfl (fun bc30 => ?_) (fun bc30 => ?_)
         ·
          have c30 := bc30
          replace c30 := not_eq_true_ c30
          refine wp_seq ?_
          refine c_region ?_
          refine l_mv 1 S rfl ?_; clear S a; intro a S
          refine l_pure S (p_iface rfl (fun w => mk73 w _)) rfl rfl rfl ?_; clear S a; intro a S
          refine l_mv 3 S rfl ?_; clear S a; intro a S
          refine l_nil ?_
          refine e_then ?_
          refine wp_ret ?_
          refine e_then_ret ?_
          have eR : R = (0, ((rd.rf s).2.2.2.2.2.1), (some 2)) := by rw [← hR]; simp only [a64, bc2, bc8, bc9, bc13, bc15, bc17, bc19, bc27, bc30, cond_true, cond_false]
          clear hR; subst eR
          exact r_ret3 S rfl rfl rfl rfl ⟨rfl, H.tail, by first | exact .inl rfl | exact .inr (.inl rfl) | exact .inr (.inr rfl) | exact or2 hpe | exact or2 hpx | exact or2 hpy⟩
         ·
          have c30 := bc30
          replace c30 := not_eq_false_ c30
          refine wp_skip ?_
          refine e_then ?_
          refine wp_seq ?_
          refine c_region ?_
          have hcon := d6.fbt_ wb _ B L0 hW hL gd ((d2.dset (s.extract 0 ((rd.rf s).2.2.2.2.2.1 : Int).toNat)).1) ((d2.dset (s.extract 0 ((rd.rf s).2.2.2.2.2.1 : Int).toNat)).2.1) ((d2.dset (s.extract 0 ((rd.rf s).2.2.2.2.2.1 : Int).toNat)).2.2.1) ((d2.dset (s.extract 0 ((rd.rf s).2.2.2.2.2.1 : Int).toNat)).2.2.2.1) ((d2.dset (s.extract 0 ((rd.rf s).2.2.2.2.2.1 : Int).toNat)).2.2.2.2.1) hdn hdg (by omega) H
          refine l_call S rfl rfl Tryz.func60 rfl rfl (hcon) rfl rfl rfl ?_
          rintro e w ⟨rfl, hH⟩
          refine ⟨_, rfl, ?_⟩; clear S a; intro a S
          clear H hcon; have H := hH; clear hH
          refine l_mv 5 S rfl ?_; clear S a; intro a S
          refine l_nil ?_
          refine e_then ?_
          refine wp_seq ?_
          refine c_region ?_
          refine l_mv 1 S rfl ?_; clear S a; intro a S
          refine l_pure S (p_ext (v := .float .f64 ((d6.fbt ((d2.dset (s.extract 0 ((rd.rf s).2.2.2.2.2.1 : Int).toNat)).1) ((d2.dset (s.extract 0 ((rd.rf s).2.2.2.2.2.1 : Int).toNat)).2.1) ((d2.dset (s.extract 0 ((rd.rf s).2.2.2.2.2.1 : Int).toNat)).2.2.1) ((d2.dset (s.extract 0 ((rd.rf s).2.2.2.2.2.1 : Int).toNat)).2.2.2.1) ((d2.dset (s.extract 0 ((rd.rf s).2.2.2.2.2.1 : Int).toNat)).2.2.2.2.1)).1).toNat) rfl (fun w => fb_run (d6.fbt ((d2.dset (s.extract 0 ((rd.rf s).2.2.2.2.2.1 : Int).toNat)).1) ((d2.dset (s.extract 0 ((rd.rf s).2.2.2.2.2.1 : Int).toNat)).2.1) ((d2.dset (s.extract 0 ((rd.rf s).2.2.2.2.2.1 : Int).toNat)).2.2.1) ((d2.dset (s.extract 0 ((rd.rf s).2.2.2.2.2.1 : Int).toNat)).2.2.2.1) ((d2.dset (s.extract 0 ((rd.rf s).2.2.2.2.2.1 : Int).toNat)).2.2.2.2.1)).1 w)) rfl rfl rfl ?_; clear S a; intro a S
          refine l_mv 1 S rfl ?_; clear S a; intro a S
          refine l_nil ?_
          refine e_then ?_
          refine wp_seq ?_
          refine wp_seq ?_
          refine c_region ?_
          refine l_mv 1 S rfl ?_; clear S a; intro a S
          refine l_nil ?_
          refine e_then ?_
          refine c_cond S rfl (fun bc32 => ?_) (fun bc32 => ?_)
          ·
           have c32 := bc32
           refine c_region ?_
           refine l_pure S (p_iface rfl (fun w => mk73 w _)) rfl rfl rfl ?_; clear S a; intro a S
           refine l_mv 1 S rfl ?_; clear S a; intro a S
           refine l_nil ?_
           refine e_then ?_
           refine wp_seq ?_
           refine c_region ?_
           refine l_mv 6 S rfl ?_; clear S a; intro a S
           refine l_nil ?_
           refine e_then ?_
           refine wp_ret ?_
           have eR : R = ((((d6.fbt ((d2.dset (s.extract 0 ((rd.rf s).2.2.2.2.2.1 : Int).toNat)).1) ((d2.dset (s.extract 0 ((rd.rf s).2.2.2.2.2.1 : Int).toNat)).2.1) ((d2.dset (s.extract 0 ((rd.rf s).2.2.2.2.2.1 : Int).toNat)).2.2.1) ((d2.dset (s.extract 0 ((rd.rf s).2.2.2.2.2.1 : Int).toNat)).2.2.2.1) ((d2.dset (s.extract 0 ((rd.rf s).2.2.2.2.2.1 : Int).toNat)).2.2.2.2.1)).1).toNat), ((rd.rf s).2.2.2.2.2.1), (some 1)) := by rw [← hR]; simp only [a64, bc2, bc8, bc9, bc13, bc15, bc17, bc19, bc27, bc30, bc32, cond_true, cond_false]
           clear hR; subst eR
           exact r_ret3 S rfl rfl rfl rfl ⟨rfl, H, by first | exact .inl rfl | exact .inr (.inl rfl) | exact .inr (.inr rfl) | exact or2 hpe | exact or2 hpx | exact or2 hpy⟩
          ·
           have c32 := bc32
           refine wp_skip ?_
           refine e_then ?_
           refine wp_seq ?_
           refine c_region ?_
           refine l_mv 6 S rfl ?_; clear S a; intro a S
           refine l_nil ?_
           refine e_then ?_
           refine wp_ret ?_
           have eR : R = ((((d6.fbt ((d2.dset (s.extract 0 ((rd.rf s).2.2.2.2.2.1 : Int).toNat)).1) ((d2.dset (s.extract 0 ((rd.rf s).2.2.2.2.2.1 : Int).toNat)).2.1) ((d2.dset (s.extract 0 ((rd.rf s).2.2.2.2.2.1 : Int).toNat)).2.2.1) ((d2.dset (s.extract 0 ((rd.rf s).2.2.2.2.2.1 : Int).toNat)).2.2.2.1) ((d2.dset (s.extract 0 ((rd.rf s).2.2.2.2.2.1 : Int).toNat)).2.2.2.2.1)).1).toNat), ((rd.rf s).2.2.2.2.2.1), none) := by rw [← hR]; simp only [a64, bc2, bc8, bc9, bc13, bc15, bc17, bc19, bc27, bc30, bc32, cond_true, cond_false]
           clear hR; subst eR
           exact r_ret3 S rfl rfl rfl rfl ⟨rfl, H, by first | exact .inl rfl | exact .inr (.inl rfl) | exact .inr (.inr rfl) | exact or2 hpe | exact or2 hpx | exact or2 hpy⟩
def pfp (s : ByteArray) : Nat × Int × Option Int := (((a64 s).1), ((a64 s).2.1), ((a64 s).2.2))
set_option maxHeartbeats 2000000 in
theorem pfp_ (wb w0 : World) (B : Nat) (L0 : List (Nat × Obj)) (hT : fz.PTab 13 B wb) (hW : PW 8 9 7 12 11 14 B wb) (hL : PL 14 B wb) (s : ByteArray) (hs : s.size ≤ 1000000) (H : HH B wb w0 L0) : Calls Tryz.prog 35 #[.string s, .int .i64 64] w0 fun e w' => e = .returned (.tuple #[.float .f64 (pfp s).1, .int .i64 (pfp s).2.1, errV 73 (pfp s).2.2]) ∧ HH B wb w' L0 ∧ Er (pfp s).2.2 := by
 generalize hR : pfp s = R
 refine c_enter (args := [.string s, .int .i64 64]) (k := 25) Tryz.func35 rfl rfl rfl (fun a S => ?_)
 refine wp_seq ?_
 refine c_region ?_
 refine l_mv 3 S rfl ?_; clear S a; intro a S
 refine l_nil ?_
 refine e_then ?_
 refine wp_seq ?_
 refine wp_seq ?_
 refine c_region ?_
 refine l_mv 1 S rfl ?_; clear S a; intro a S
 refine l_pure S (p_eql rfl rfl) rfl rfl rfl ?_; clear S a; intro a S
 refine l_nil ?_
 refine e_then ?_
 refine c_cond (b := false) S rfl (fun h => by cases h) (fun _ => ?_)
 refine wp_skip ?_
 refine e_then ?_
 refine wp_seq ?_
 refine c_region ?_
 refine l_mv 1 S rfl ?_; clear S a; intro a S
 have hcon := a64_ wb _ B _ hT hW hL s hs H
 refine l_call S rfl rfl Tryz.func47 rfl rfl (hcon) rfl rfl rfl ?_
 rintro e w ⟨rfl, hH, hpe⟩
 refine ⟨_, rfl, ?_⟩; clear S a; intro a S
 clear H hcon; have H := hH; clear hH
 refine l_mv 6 S rfl ?_; clear S a; intro a S
 refine l_nil ?_
 refine e_then ?_
 refine wp_ret ?_
 have eR : R = (((a64 s).1), ((a64 s).2.1), ((a64 s).2.2)) := by rw [← hR]; simp only [pfp, cond_true, cond_false]
 clear hR; subst eR
 exact r_ret3 S rfl rfl rfl rfl ⟨rfl, H, hpe⟩
def pff (s : ByteArray) : Nat × Option Int := (bif ((pfp s).2.1 != ((s.size : Nat) : Int)) then (0, (some 2)) else (((pfp s).1), ((pfp s).2.2)))
set_option maxHeartbeats 2000000 in
theorem pff_ (wb w0 : World) (B : Nat) (L0 : List (Nat × Obj)) (hT : fz.PTab 13 B wb) (hW : PW 8 9 7 12 11 14 B wb) (hL : PL 14 B wb) (s : ByteArray) (hs : s.size ≤ 1000000) (H : HH B wb w0 L0) : Calls Tryz.prog 18 #[.string s, .int .i64 64] w0 fun e w' => e = .returned (.tuple #[.float .f64 (pff s).1, errV 73 (pff s).2]) ∧ HH B wb w' L0 ∧ Er (pff s).2 := by
 generalize hR : pff s = R
 refine c_enter (args := [.string s, .int .i64 64]) (k := 21) Tryz.func18 rfl rfl rfl (fun a S => ?_)
 refine wp_seq ?_
 refine c_region ?_
 refine l_mv 2 S rfl ?_; clear S a; intro a S
 refine l_nil ?_
 refine e_then ?_
 refine wp_seq ?_
 refine c_region ?_
 refine l_mv 2 S rfl ?_; clear S a; intro a S
 have hcon := pfp_ wb _ B _ hT hW hL s hs H
 refine l_call S rfl rfl Tryz.func35 rfl rfl (hcon) rfl rfl rfl ?_
 rintro e w ⟨rfl, hH, hpe⟩
 refine ⟨_, rfl, ?_⟩; clear S a; intro a S
 clear H hcon; have H := hH; clear hH
 refine l_mv 7 S rfl ?_; clear S a; intro a S
 refine l_nil ?_
 refine e_then ?_
 refine wp_seq ?_
 refine wp_seq ?_
 refine c_region ?_
 refine l_mv 2 S rfl ?_; clear S a; intro a S
 refine l_pure S (p_lens Tryz.underlying9 rfl) rfl rfl rfl ?_; clear S a; intro a S
 refine l_pure S (p_neq rfl rfl) rfl rfl rfl ?_; clear S a; intro a S
 refine l_nil ?_
 refine e_then ?_
 refine c_cond S rfl (fun bc2 => ?_) (fun bc2 => ?_)
 ·
  have c2 := bc2
  have c2 := bne_iff_ne.1 c2
  refine wp_seq ?_
  refine c_region ?_
  refine l_pure S (p_iface rfl (fun w => mk73 w _)) rfl rfl rfl ?_; clear S a; intro a S
  refine l_mv 2 S rfl ?_; clear S a; intro a S
  refine l_nil ?_
  refine e_then ?_
  refine wp_ret ?_
  refine e_then_ret ?_
  have eR : R = (0, (some 2)) := by rw [← hR]; simp only [pff, bc2, cond_true, cond_false]
  clear hR; subst eR
  exact r_ret2 S rfl rfl rfl ⟨rfl, H, by first | exact .inr (.inr rfl) | exact hpe⟩
 ·
  have c2 := bc2
  have c2 := bne_eq_false_iff_eq.1 c2
  refine wp_skip ?_
  refine e_then ?_
  refine wp_seq ?_
  refine c_region ?_
  refine l_mv 4 S rfl ?_; clear S a; intro a S
  refine l_nil ?_
  refine e_then ?_
  refine wp_ret ?_
  have eR : R = (((pfp s).1), ((pfp s).2.2)) := by rw [← hR]; simp only [pff, bc2, cond_true, cond_false]
  clear hR; subst eR
  exact r_ret2 S rfl rfl rfl ⟨rfl, H, by first | exact .inr (.inr rfl) | exact hpe⟩
end pr
end Go.Proofs.YtneoieigaakoaaaGreatDoor.pf
end
section
namespace Go.Proofs.YtneoieigaakoaaaGreatDoor.pf
open Go.Proofs.YtneoieigaakoaaaGreatDoor.fx
open Go.RowKit Go.Proofs.HHW Go.Proofs.YtneoieigaakoaaaGreatDoorW.PrintWords
namespace er
structure EV (gs gr B : Nat) (wb : World) (sv rv : Value) : Prop where
 s : wb.cell? ⟨gs, 0, none⟩ = some sv ∧ gs < B
 r : wb.cell? ⟨gr, 0, none⟩ = some rv ∧ gr < B
 sv : ∃ t p, sv = .iface t p
 rv : ∃ t p, rv = .iface t p
def NumE (fn s : ByteArray) (sv rv : Value) (e : Option Int) (v : Value) (L : List (Nat × Obj)) : Prop := match e with
 | none => v = .nilIface ∧ L = []
 | some c => ∃ n, v = .iface 49 (.pointer (some ⟨n, 0, none⟩)) ∧ L = [(n, .cells #[.string fn, .string s, if c = 2 then sv else rv] 52 (0, 0))]
theorem toE_s (wb w : World) (B : Nat) (L0 : List (Nat × Obj)) (sv rv : Value) (hV : EV 6 1 B wb sv rv) (fn s : ByteArray) (hs : s.size ≤ 1000000) (b z : Int) (H : HH B wb w L0) : Calls Tryz.prog 19 #[.string fn, .string s, .int .i64 b, .int .i64 z, .iface 73 (.int .i64 2)] w fun e w' => ∃ v L1, e = .returned v ∧ HH B wb w' (L1 ++ L0) ∧ NumE fn s sv rv (some 2) v L1 :=
 Calls.mono (AnyPu.strconv_toError_syntax Tryz.llP17 fn s b z sv w (by omega) ((H.below.cell (p := ⟨_, 0, none⟩) hV.s.2).trans hV.s.1) (Or.inr hV.sv)) (by rintro e w' ⟨n, rfl, h1, h2, h3⟩; exact ⟨_, [_], rfl, H.more h3 h1 h2, n, rfl, rfl⟩)
theorem toE_r (wb w : World) (B : Nat) (L0 : List (Nat × Obj)) (sv rv : Value) (hV : EV 6 1 B wb sv rv) (fn s : ByteArray) (hs : s.size ≤ 1000000) (b z : Int) (H : HH B wb w L0) : Calls Tryz.prog 19 #[.string fn, .string s, .int .i64 b, .int .i64 z, .iface 73 (.int .i64 1)] w fun e w' => ∃ v L1, e = .returned v ∧ HH B wb w' (L1 ++ L0) ∧ NumE fn s sv rv (some 1) v L1 :=
 Calls.mono (AnyPu.strconv_toError_range Tryz.llP17 fn s b z rv w (by omega) ((H.below.cell (p := ⟨_, 0, none⟩) hV.r.2).trans hV.r.1) (Or.inr hV.rv)) (by rintro e w' ⟨n, rfl, h1, h2, h3⟩; exact ⟨_, [_], rfl, H.more h3 h1 h2, n, rfl, rfl⟩)
set_option maxHeartbeats 1000000 in
theorem pfl_ (wb w0 : World) (B : Nat) (L0 : List (Nat × Obj)) (hT : fz.PTab 13 B wb) (hW : PW 8 9 7 12 11 14 B wb) (hL : PL 14 B wb) (sv rv : Value) (hV : EV 6 1 B wb sv rv) (s : ByteArray) (hs : s.size ≤ 1000000) (H : HH B wb w0 L0) : Calls Tryz.prog 13 #[.string s, .int .i64 64] w0 fun e w' => ∃ v L1, e = .returned (.tuple #[.float .f64 (pr.pff s).1, v]) ∧ HH B wb w' (L1 ++ L0) ∧ NumE (⟨#[80, 97, 114, 115, 101, 70, 108, 111, 97, 116]⟩ : ByteArray) s sv rv (pr.pff s).2 v L1 ∧ pr.Er (pr.pff s).2 := by
 refine c_enter (args := [.string s, .int .i64 64]) (k := 20) Tryz.func13 rfl rfl rfl (fun a S => ?_)
 refine wp_seq ?_
 refine c_region ?_
 refine l_mv 2 S rfl ?_; clear S a; intro a S
 refine l_nil ?_
 refine e_then ?_
 refine wp_seq ?_
 refine c_region ?_
 refine l_mv 2 S rfl ?_; clear S a; intro a S
 have hcon := pr.pff_ wb _ B _ hT hW hL s hs H
 refine l_call S rfl rfl Tryz.func18 rfl rfl (hcon) rfl rfl rfl ?_
 rintro e w ⟨rfl, hH, hpe⟩
 refine ⟨_, rfl, ?_⟩; clear S a; intro a S
 clear H hcon; have H := hH; clear hH
 have hpe0 := hpe
 rcases hpe with he | he | he
 ·
  rw [he] at S
  refine l_mv 5 S rfl ?_; clear S a; intro a S
  refine l_nil ?_
  refine e_then ?_
  refine wp_seq ?_
  refine wp_seq ?_
  refine c_region ?_
  refine l_mv 1 S rfl ?_; clear S a; intro a S
  refine l_pure S (p_nilnilN mi35 rfl) rfl rfl rfl ?_; clear S a; intro a S
  refine l_nil ?_
  refine e_then ?_
  refine c_cond (b := false) S rfl (fun h => by cases h) (fun _ => ?_)
  refine wp_skip ?_
  refine e_then ?_
  refine wp_seq ?_
  refine c_region ?_
  refine l_mv 3 S rfl ?_; clear S a; intro a S
  refine l_nil ?_
  refine e_then ?_
  refine wp_ret ?_
  exact r_ret2 S rfl rfl rfl ⟨_, [], rfl, H, by rw [he]; exact ⟨rfl, rfl⟩, hpe0⟩
 ·
  rw [he] at S
  refine l_mv 5 S rfl ?_; clear S a; intro a S
  refine l_nil ?_
  refine e_then ?_
  refine wp_seq ?_
  refine wp_seq ?_
  refine c_region ?_
  refine l_mv 1 S rfl ?_; clear S a; intro a S
  refine l_pure S (p_ifnilN mi35 rfl rfl) rfl rfl rfl ?_; clear S a; intro a S
  refine l_nil ?_
  refine e_then ?_
  refine c_cond (b := true) S rfl (fun _ => ?_) (fun h => by cases h)
  refine wp_seq ?_
  refine c_region ?_
  refine l_mv 4 S rfl ?_; clear S a; intro a S
  refine l_call S rfl rfl Tryz.func19 rfl rfl (toE_r wb _ B L0 sv rv hV (⟨#[80, 97, 114, 115, 101, 70, 108, 111, 97, 116]⟩ : ByteArray) s hs 0 64 H) rfl rfl rfl ?_
  rintro e w ⟨v1, L1, rfl, hH, hne⟩
  refine ⟨_, rfl, ?_⟩; clear S a; intro a S
  clear H; have H := hH; clear hH
  refine l_mv 2 S rfl ?_; clear S a; intro a S
  refine l_nil ?_
  refine e_then ?_
  refine wp_ret ?_
  refine e_then_ret ?_
  exact r_ret2 S rfl rfl rfl ⟨_, L1, rfl, H, by rw [he]; exact hne, hpe0⟩
 ·
  rw [he] at S
  refine l_mv 5 S rfl ?_; clear S a; intro a S
  refine l_nil ?_
  refine e_then ?_
  refine wp_seq ?_
  refine wp_seq ?_
  refine c_region ?_
  refine l_mv 1 S rfl ?_; clear S a; intro a S
  refine l_pure S (p_ifnilN mi35 rfl rfl) rfl rfl rfl ?_; clear S a; intro a S
  refine l_nil ?_
  refine e_then ?_
  refine c_cond (b := true) S rfl (fun _ => ?_) (fun h => by cases h)
  refine wp_seq ?_
  refine c_region ?_
  refine l_mv 4 S rfl ?_; clear S a; intro a S
  refine l_call S rfl rfl Tryz.func19 rfl rfl (toE_s wb _ B L0 sv rv hV (⟨#[80, 97, 114, 115, 101, 70, 108, 111, 97, 116]⟩ : ByteArray) s hs 0 64 H) rfl rfl rfl ?_
  rintro e w ⟨v1, L1, rfl, hH, hne⟩
  refine ⟨_, rfl, ?_⟩; clear S a; intro a S
  clear H; have H := hH; clear hH
  refine l_mv 2 S rfl ?_; clear S a; intro a S
  refine l_nil ?_
  refine e_then ?_
  refine wp_ret ?_
  refine e_then_ret ?_
  exact r_ret2 S rfl rfl rfl ⟨_, L1, rfl, H, by rw [he]; exact hne, hpe0⟩
end er
end Go.Proofs.YtneoieigaakoaaaGreatDoor.pf
end
section
namespace Go.Proofs.YtneoieigaakoaaaGreatDoor.up
open Go.Proofs.YtneoieigaakoaaaGreatDoor.fx
open Go.Lib Go.Proofs.HHW
theorem sz (s : ByteArray) : s.data.toList.length = s.size := Array.length_toList
def V (s : ByteArray) (i : Nat) : Bool := validD (s.data.toList.drop i)
def Lead (c : Int) (need : Nat) (lo hi : Int) : Prop :=
 (c < 128 ∧ need = 0) ∨ (194 ≤ c ∧ c ≤ 223 ∧ need = 1 ∧ lo = 128 ∧ hi = 191) ∨
 (224 ≤ c ∧ c ≤ 239 ∧ need = 2 ∧ (c = 224 → lo = 160) ∧ (c ≠ 224 → lo = 128) ∧ (c = 237 → hi = 159) ∧ (c ≠ 237 → hi = 191)) ∨
 (240 ≤ c ∧ c ≤ 244 ∧ need = 3 ∧ (c = 240 → lo = 144) ∧ (c ≠ 240 → lo = 128) ∧ (c = 244 → hi = 143) ∧ (c ≠ 244 → hi = 191))
theorem bt_drop (s : ByteArray) (i k : Nat) (x : Int) (hx : x = ((i + k : Nat) : Int)) : (((s.data.toList.drop i).getD k 0).toNat : Int) = bt s x := by
 subst hx
 unfold bt
 rw [List.getD_eq_getElem?_getD, List.getElem?_drop]
 split
 ·
  rename_i h
  rw [Int.toNat_natCast] at h
  have h2 : i + k < s.data.toList.length := by rw [sz]; exact h
  rw [List.getElem?_eq_getElem h2]
  rfl
 ·
  rename_i h
  rw [Int.toNat_natCast] at h
  have h2 : s.data.toList.length ≤ i + k := by rw [sz]; omega
  rw [List.getElem?_eq_none h2]
  rfl
theorem ne_nil {s : ByteArray} {i : Nat} (h : i < s.size) : s.data.toList.drop i ≠ [] := by
 intro e
 have := congrArg List.length e
 rw [List.length_drop, sz] at this
 simp at this
 omega
theorem V_end (s : ByteArray) (i : Nat) (h : s.size ≤ i) : V s i = true := by
 unfold V
 rw [List.drop_eq_nil_of_le (by rw [sz]; exact h)]
 rfl
theorem V_ascii {s : ByteArray} {i : Nat} (h : i < s.size) (hc : bt s (i : Int) < 128) : V s i = V s (i + 1) := by
 unfold V
 have hd : s.data.toList.drop i = (s.data.toList.drop i).getD 0 0 :: s.data.toList.drop (i + 1) := by
  have h2 : i < s.data.toList.length := by rw [sz]; exact h
  rw [List.getD_eq_getElem?_getD, List.getElem?_drop, Nat.add_zero, List.getElem?_eq_getElem h2]
  exact List.drop_eq_getElem_cons h2
 rw [hd]
 refine validD_cons _ _ ?_
 have := bt_drop s i 0 i rfl
 omega
theorem V_lead {s : ByteArray} {i : Nat} (h : i < s.size) (hc : 128 ≤ bt s (i : Int)) :
  V s i = match checkN (s.size - i) (bt s ((i + 1 : Nat) : Int)).toNat (bt s ((i + 2 : Nat) : Int)).toNat (bt s ((i + 3 : Nat) : Int)).toNat (firstT (bt s (i : Int)).toNat % 8) (accLo (firstT (bt s (i : Int)).toNat / 16)) (accHi (firstT (bt s (i : Int)).toNat / 16)) with
   | none => false
   | some k => V s (i + k) := by
 have e0 := bt_drop s i 0 i rfl
 have e1 := bt_drop s i 1 _ rfl
 have e2 := bt_drop s i 2 _ rfl
 have e3 := bt_drop s i 3 _ rfl
 have hl : (s.data.toList.drop i).length = s.size - i := by rw [List.length_drop, sz]
 unfold V
 rw [validD_lead _ (ne_nil h) (by omega), hl, ← e0, ← e1, ← e2, ← e3]
 simp only [Int.toNat_natCast, List.drop_drop]
 rfl
theorem bad {s : ByteArray} {i : Nat} (h : i < s.size) (hc : ¬ (bt s (i : Int) < 128 ∨ (194 ≤ bt s (i : Int) ∧ bt s (i : Int) ≤ 244))) : V s i = false := by
 have hr := HHW.bt_range s i
 rw [V_lead h (by omega)]
 generalize bt s (i : Int) = c at *
 obtain ⟨n, rfl⟩ := Int.eq_ofNat_of_zero_le hr.1
 have h1 : ¬ n < 128 := by omega
 have h2 : firstT n = 241 := by
  unfold firstT
  split
  ·
   omega
  ·
   split
   ·
    rfl
   ·
    repeat' split
    all_goals omega
 rw [Int.toNat_natCast, h2]
 rfl
def Ok (s : ByteArray) (i need : Nat) (lo hi : Int) : Prop :=
 (1 ≤ need → i + 1 < s.size ∧ lo ≤ bt s ((i + 1 : Nat) : Int) ∧ bt s ((i + 1 : Nat) : Int) ≤ hi) ∧
 (2 ≤ need → i + 2 < s.size ∧ 128 ≤ bt s ((i + 2 : Nat) : Int) ∧ bt s ((i + 2 : Nat) : Int) ≤ 191) ∧
 (3 ≤ need → i + 3 < s.size ∧ 128 ≤ bt s ((i + 3 : Nat) : Int) ∧ bt s ((i + 3 : Nat) : Int) ≤ 191)
theorem step {s : ByteArray} {i need : Nat} {lo hi : Int} (h : i < s.size) (hl : Lead (bt s (i : Int)) need lo hi) : (Ok s i need lo hi → V s i = V s (i + (need + 1))) ∧ (¬ Ok s i need lo hi → V s i = false) := by
 have r0 := HHW.bt_range s i
 have r1 := HHW.bt_range s ((i + 1 : Nat) : Int)
 have r2 := HHW.bt_range s ((i + 2 : Nat) : Int)
 have r3 := HHW.bt_range s ((i + 3 : Nat) : Int)
 unfold Ok
 rcases hl with ⟨hc, rfl⟩ | hl
 ·
  refine ⟨fun _ => V_ascii h hc, fun hn => absurd ⟨by omega, by omega, by omega⟩ hn⟩
 ·
  rw [V_lead h (by omega)]
  generalize bt s (i : Int) = c at *
  generalize bt s ((i + 1 : Nat) : Int) = c1 at *
  generalize bt s ((i + 2 : Nat) : Int) = c2 at *
  generalize bt s ((i + 3 : Nat) : Int) = c3 at *
  obtain ⟨n, rfl⟩ := Int.eq_ofNat_of_zero_le r0.1
  obtain ⟨n1, rfl⟩ := Int.eq_ofNat_of_zero_le r1.1
  obtain ⟨n2, rfl⟩ := Int.eq_ofNat_of_zero_le r2.1
  obtain ⟨n3, rfl⟩ := Int.eq_ofNat_of_zero_le r3.1
  simp only [Int.toNat_natCast]
  have key : ∀ (f l' h' sz : Nat), firstT n = f → f % 8 = sz → accLo (f / 16) = l' → accHi (f / 16) = h' → sz = need + 1 → 1 ≤ need → need ≤ 3 → lo = l' → hi = h' →
    (((1 ≤ need → i + 1 < s.size ∧ lo ≤ (n1 : Int) ∧ (n1 : Int) ≤ hi) ∧ (2 ≤ need → i + 2 < s.size ∧ 128 ≤ (n2 : Int) ∧ (n2 : Int) ≤ 191) ∧ (3 ≤ need → i + 3 < s.size ∧ 128 ≤ (n3 : Int) ∧ (n3 : Int) ≤ 191)) →
     (match checkN (s.size - i) n1 n2 n3 (firstT n % 8) (accLo (firstT n / 16)) (accHi (firstT n / 16)) with | none => false | some k => V s (i + k)) = V s (i + (need + 1))) ∧
    (¬ ((1 ≤ need → i + 1 < s.size ∧ lo ≤ (n1 : Int) ∧ (n1 : Int) ≤ hi) ∧ (2 ≤ need → i + 2 < s.size ∧ 128 ≤ (n2 : Int) ∧ (n2 : Int) ≤ 191) ∧ (3 ≤ need → i + 3 < s.size ∧ 128 ≤ (n3 : Int) ∧ (n3 : Int) ≤ 191)) →
     (match checkN (s.size - i) n1 n2 n3 (firstT n % 8) (accLo (firstT n / 16)) (accHi (firstT n / 16)) with | none => false | some k => V s (i + k)) = false) := by
   intro f l' h' sz e1 e2 e3 e4 e5 e6 e7 e8 e9
   rw [e1, e2, e3, e4]
   subst e8 e9 e5
   unfold checkN
   rcases (show need = 1 ∨ need = 2 ∨ need = 3 by omega) with rfl | rfl | rfl <;> simp only [Nat.reduceAdd, Nat.reduceEqDiff, if_true, if_false]
   all_goals
    constructor
    ·
     intro hok
     rw [if_neg (by omega)]
    ·
     intro hno
     rw [if_pos (by omega)]
  rcases hl with ⟨h1, h2, rfl, rfl, rfl⟩ | ⟨h1, h2, rfl, h3, h4, h5, h6⟩ | ⟨h1, h2, rfl, h3, h4, h5, h6⟩
  ·
   exact key 2 128 191 2 (firstT_C2 (by omega)) rfl rfl rfl rfl (by omega) (by omega) rfl rfl
  ·
   by_cases a1 : n = 224
   ·
    exact key 19 160 191 3 (firstT_E0 a1) rfl rfl rfl rfl (by omega) (by omega) (by omega) (by omega)
   ·
    by_cases a2 : n = 237
    ·
     exact key 35 128 159 3 (firstT_ED a2) rfl rfl rfl rfl (by omega) (by omega) (by omega) (by omega)
    ·
     exact key 3 128 191 3 (firstT_E1 (by omega)) rfl rfl rfl rfl (by omega) (by omega) (by omega) (by omega)
  ·
   by_cases a1 : n = 240
   ·
    exact key 52 144 191 4 (firstT_F0 a1) rfl rfl rfl rfl (by omega) (by omega) (by omega) (by omega)
   ·
    by_cases a2 : n = 244
    ·
     exact key 68 128 143 4 (firstT_F4 a2) rfl rfl rfl rfl (by omega) (by omega) (by omega) (by omega)
    ·
     exact key 4 128 191 4 (firstT_F1 (by omega)) rfl rfl rfl rfl (by omega) (by omega) (by omega) (by omega)
def Inn (s : ByteArray) (i need : Nat) (lo hi : Int) (j : Nat) (l h : Int) : Prop :=
 1 ≤ j ∧ j ≤ need + 1 ∧ need ≤ 3 ∧ (j = 1 → l = lo ∧ h = hi) ∧ (1 < j → l = 128 ∧ h = 191) ∧
 (1 < j → i + 1 < s.size ∧ lo ≤ bt s ((i + 1 : Nat) : Int) ∧ bt s ((i + 1 : Nat) : Int) ≤ hi) ∧
 (2 < j → i + 2 < s.size ∧ 128 ≤ bt s ((i + 2 : Nat) : Int) ∧ bt s ((i + 2 : Nat) : Int) ≤ 191) ∧
 (3 < j → i + 3 < s.size ∧ 128 ≤ bt s ((i + 3 : Nat) : Int) ∧ bt s ((i + 3 : Nat) : Int) ≤ 191)
theorem Inn.start {s : ByteArray} {i need : Nat} {lo hi : Int} (h : need ≤ 3) : Inn s i need lo hi 1 lo hi := by unfold Inn; omega
theorem Inn.next {s : ByteArray} {i need : Nat} {lo hi : Int} {j : Nat} {l h : Int} (H : Inn s i need lo hi j l h) (hj : j ≤ need) (h1 : i + j < s.size) (h2 : l ≤ bt s ((i + j : Nat) : Int)) (h3 : bt s ((i + j : Nat) : Int) ≤ h) : Inn s i need lo hi (j + 1) 128 191 := by
 unfold Inn at *
 rcases (show j = 1 ∨ j = 2 ∨ j = 3 by omega) with rfl | rfl | rfl <;> omega
theorem Inn.bad {s : ByteArray} {i need : Nat} {lo hi : Int} {j : Nat} {l h : Int} (H : Inn s i need lo hi j l h) (hj : j ≤ need) (hn : ¬ (i + j < s.size ∧ l ≤ bt s ((i + j : Nat) : Int) ∧ bt s ((i + j : Nat) : Int) ≤ h)) : ¬ Ok s i need lo hi := by
 unfold Inn at H
 unfold Ok
 rcases (show j = 1 ∨ j = 2 ∨ j = 3 by omega) with rfl | rfl | rfl <;> omega
theorem Inn.done {s : ByteArray} {i need : Nat} {lo hi : Int} {j : Nat} {l h : Int} (H : Inn s i need lo hi j l h) (hj : need < j) : Ok s i need lo hi ∧ j = need + 1 ∧ (1 ≤ need → i + need < s.size) := by
  unfold Inn at H
  unfold Ok
  rcases (show j = 1 ∨ j = 2 ∨ j = 3 ∨ j = 4 by omega) with rfl | rfl | rfl | rfl
  all_goals
    first
      | (have : need = 0 := by omega
         subst this; omega)
      | (have : need = 1 := by omega
         subst this; omega)
      | (have : need = 2 := by omega
         subst this; omega)
      | (have : need = 3 := by omega
         subst this; omega)
theorem Lead.le {c : Int} {need : Nat} {lo hi : Int} (h : Lead c need lo hi) : need ≤ 3 := by unfold Lead at h; omega
end Go.Proofs.YtneoieigaakoaaaGreatDoor.up
end
section
namespace Go.Proofs.YtneoieigaakoaaaGreatDoor.vp
open Go.Proofs.YtneoieigaakoaaaGreatDoor.fx
open Go.RowKit Go.Proofs.HHW Go.Proofs.YtneoieigaakoaaaGreatDoorW.PrintWords
def pS (k : Int) (s : ByteArray) : ByteArray := if k = 1 then s else ⟨#[]⟩
def pN (k n : Int) : Int := if k = 2 then n else 0
def pU (k n : Int) : Int := if k = 3 then n else 0
def pF (k : Int) (n : Nat) : Nat := if k = 4 then n else 0
def pB (k : Int) (b : Bool) : Bool := if k = 5 then b else false
def Rel (k : Int) (s : ByteArray) (n u : Int) (f : Nat) (b : Bool) (N : Int) (l : List Int) (K : Int) : Prop :=
 (k = 1 ∧ N = 0 ∧ l = ints s ∧ K = 0) ∨ (k = 2 ∧ N = IntKind.u64.wrap n ∧ l = [] ∧ K = 2) ∨ (k = 3 ∧ N = u ∧ l = [] ∧ K = 3) ∨ (k = 4 ∧ N = (f : Int) ∧ l = [] ∧ K = 4) ∨ (k = 5 ∧ N = (if b = true then 1 else 0) ∧ l = [] ∧ K = 5)
def kd (K : Int) : Int := if K = 0 then 1 else K
def eqv (N1 : Int) (l1 : List Int) (K1 N2 : Int) (l2 : List Int) (K2 : Int) : Bool :=
 if kd K2 = kd K1 then (if kd K1 = 4 then fl.eq N1.toNat N2.toNat else (N1 == N2 && (strOfNums l1).toList == (strOfNums l2).toList)) else false
def peq (k1 : Int) (s1 : ByteArray) (n1 u1 : Int) (f1 : Nat) (b1 : Bool) (k2 : Int) (s2 : ByteArray) (n2 u2 : Int) (f2 : Nat) (b2 : Bool) : Bool :=
 (k1 == k2 && (pS k1 s1 == pS k2 s2 && (pN k1 n1 == pN k2 n2 && (pU k1 u1 == pU k2 u2 && (Op.floatEq .f64 (pF k1 f1) (pF k2 f2) && pB k1 b1 == pB k2 b2)))))
theorem nums_ints (s : ByteArray) : strOfNums (ints s) = s := by
 have h : (strOfNums (ints s)).data.toList = s.data.toList := by
  rw [strOfNums_data]
  unfold ints
  rw [List.map_map]
  conv => rhs; rw [← List.map_id s.data.toList]
  apply List.map_congr_left
  intro b _
  simp
 have h2 : (strOfNums (ints s)).data = s.data := Array.toList_inj.1 h
 cases s
 cases hh : strOfNums (ints _)
 rw [hh] at h2
 simp only at h2
 rw [h2]
theorem ba_beq (a b : ByteArray) : (a == b) = (a.data == b.data) := by cases a; cases b; rfl
theorem list_beq (a b : ByteArray) : (a.toList == b.toList) = (a == b) := by
 rw [ba_beq, ByteArray.toList_eq, ByteArray.toList_eq]
 by_cases h : a.data = b.data
 ·
  rw [h, beq_self_eq_true, beq_self_eq_true]
 ·
  rw [beq_eq_false_iff_ne.2 h, beq_eq_false_iff_ne]
  exact fun e => h (Array.toList_inj.1 e)
theorem emp : ((⟨#[]⟩ : ByteArray) == ⟨#[]⟩) = true := by rw [ba_beq]; rfl
theorem feq00 : Op.floatEq .f64 0 0 = true := by decide
theorem key {k1 : Int} {s1 : ByteArray} {n1 u1 : Int} {f1 : Nat} {b1 : Bool} {N1 : Int} {l1 : List Int} {K1 : Int} {k2 : Int} {s2 : ByteArray} {n2 u2 : Int} {f2 : Nat} {b2 : Bool} {N2 : Int} {l2 : List Int} {K2 : Int}
  (h1 : Rel k1 s1 n1 u1 f1 b1 N1 l1 K1) (h2 : Rel k2 s2 n2 u2 f2 b2 N2 l2 K2) (r1 : -9223372036854775808 ≤ n1 ∧ n1 ≤ 9223372036854775807) (r2 : -9223372036854775808 ≤ n2 ∧ n2 ≤ 9223372036854775807) :
  eqv N1 l1 K1 N2 l2 K2 = peq k1 s1 n1 u1 f1 b1 k2 s2 n2 u2 f2 b2 := by
 have e0 : (strOfNums []).toList = (strOfNums []).toList := rfl
 rcases h1 with ⟨rfl, rfl, rfl, rfl⟩ | ⟨rfl, rfl, rfl, rfl⟩ | ⟨rfl, rfl, rfl, rfl⟩ | ⟨rfl, rfl, rfl, rfl⟩ | ⟨rfl, rfl, rfl, rfl⟩ <;>
 rcases h2 with ⟨rfl, rfl, rfl, rfl⟩ | ⟨rfl, rfl, rfl, rfl⟩ | ⟨rfl, rfl, rfl, rfl⟩ | ⟨rfl, rfl, rfl, rfl⟩ | ⟨rfl, rfl, rfl, rfl⟩
 all_goals try (simp [eqv, peq, kd]; done)
 ·
  simp [eqv, peq, kd, pS, pN, pU, pF, pB, nums_ints, list_beq, feq00]
 ·
  simp [eqv, peq, kd, pS, pN, pU, pF, pB, feq00, emp]
  by_cases h : n1 = n2
  ·
   subst h; simp [emp]
  ·
   rw [beq_eq_false_iff_ne.2 h, beq_eq_false_iff_ne]
   rw [IntKind.wrap_u64, IntKind.wrap_u64]
   omega
 ·
  simp [eqv, peq, kd, pS, pN, pU, pF, pB, feq00, emp]
 ·
  simp [eqv, peq, kd, pS, pN, pU, pF, pB]
  rfl
 ·
  simp [eqv, peq, kd, pS, pN, pU, pF, pB, feq00, emp]
  cases b1 <;> cases b2 <;> rfl
end Go.Proofs.YtneoieigaakoaaaGreatDoor.vp
end
section
namespace Go.Proofs.HHW
open Go.RowKit Go.Proofs.YtneoieigaakoaaaGreatDoorW.PrintWords
section
variable {P : Program} {ops : Array Oper} {Q : Exit → Act → World → Prop} {o : Oper} {rest : List Oper} {a : Act} {n : Nat} {ds : List Deferred} {F : List (Nat × Value)} {B : Nat} {w0 w : World} {L : List (Nat × Obj)} {d : Nat}
def vec (p : Nat → Bool) : List Value := (List.range 256).map fun i => Value.bool (p i)
theorem vec_get (p : Nat → Bool) {i : Nat} (h : i < 256) : (vec p)[i]? = some (.bool (p i)) := by simp [vec, h]
def BS (w : World) (g : Nat) (p : Nat → Bool) : Prop := ∀ i, i < 256 → w.cell? ⟨g, i, none⟩ = some (.bool (p i))
theorem BS.later {w w' : World} {g : Nat} {p : Nat → Bool} (h : BS w g p) (hb : Below w.heap.size w w') : BS w' g p := fun i hi => by
 have h1 := h i hi
 rw [hb.cell (p := ⟨g, i, none⟩) (RB.block_lt (o := 0) (i := i) (by rw [Nat.zero_add]; exact h1))]
 exact h1
theorem BS.old {w w' : World} {g : Nat} {p : Nat → Bool} {L : List (Nat × Obj)} (h : BS w g p) (H : HH w.heap.size w w' L) : BS w' g p := h.later H.below
theorem BS.of {g : Nat} {p : Nat → Bool} {e : TypeId} {f : Nat × Nat} (H : HH B w0 w L) (hm : (g, Obj.cells (vec p).toArray e f) ∈ L) : BS w g p := fun i hi => by
 have hat := H.at_ _ hm
 simp only at hat
 simp [World.cell?, hat, vec_get p hi]
theorem ints_bt (s : ByteArray) {i : Nat} (h : i < s.size) : (ints s)[i]? = some (((bt s (i : Int)).toNat : Nat) : Int) := by
 have hb := bt_range s (i : Int)
 rw [Int.toNat_of_nonneg hb.1]
 unfold ints HHW.bt
 rw [List.getElem?_map]
 have h' : (i : Int).toNat < s.size := by simpa using h
 simp only [h', dif_pos]
 have : s.data.toList[i]? = some s.data[i] := by
  rw [Array.getElem?_toList]
  exact Array.getElem?_eq_getElem h
 rw [this]
 rfl
end
end Go.Proofs.HHW
end
section
namespace Go.Proofs.HHW
open Go.RowKit Go.Proofs.YtneoieigaakoaaaGreatDoorW.PrintWords
end Go.Proofs.HHW
end
section
namespace Go.Proofs.HHW
open Go.RowKit Go.Proofs.YtneoieigaakoaaaGreatDoorW.PrintWords
def SB (w : World) (A : Option Addr) (c : Nat) (l : List Int) : Prop := l.length ≤ c ∧ ((l = [] ∧ A = none ∧ c = 0) ∨ ∃ g o, A = some ⟨g, o, none⟩ ∧ RB w g o l)
theorem SB.later {w w' : World} {A : Option Addr} {c : Nat} {l : List Int} (h : SB w A c l) (hb : Below w.heap.size w w') : SB w' A c l := by
 obtain ⟨h1, h2 | ⟨g, o, h2, h3⟩⟩ := h
 ·
  exact ⟨h1, .inl h2⟩
 ·
  exact ⟨h1, .inr ⟨g, o, h2, h3.later hb⟩⟩
theorem SB.get {w : World} {A : Option Addr} {c : Nat} {l : List Int} (h : SB w A c l) {i : Nat} (hi : i < l.length) : ∃ g o, A = some ⟨g, o, none⟩ ∧ RB w g o l := by
 obtain ⟨h1, ⟨rfl, _⟩ | h2⟩ := h
 ·
  simp at hi
 ·
  exact h2
theorem SB.cut {w : World} {A : Option Addr} {c : Nat} {l : List Int} (h : SB w A c l) {m j : Nat} (hm : m ≤ j) (hj : j ≤ l.length) : SB w (cutAt A c m 1) (c - m) ((l.take j).drop m) := by
 obtain ⟨h1, h2⟩ := h
 refine ⟨by rw [List.length_drop, List.length_take]; omega, ?_⟩
 rcases h2 with ⟨rfl, rfl, rfl⟩ | ⟨g, o, rfl, h3⟩
 ·
  refine .inl ⟨by simp, ?_, by omega⟩
  unfold cutAt
  split <;> rfl
 ·
  exact .inr ⟨g, _, cutAt_off .., h3.cut m j h1⟩
theorem SB.drop {w : World} {A : Option Addr} {c : Nat} {l : List Int} (h : SB w A c l) {m : Nat} (hm : m ≤ l.length) : SB w (cutAt A c m 1) (c - m) (l.drop m) := by
 have := h.cut hm (Nat.le_refl _)
 rwa [List.take_of_length_le (Nat.le_refl _)] at this
theorem SB.take {w : World} {A : Option Addr} {c : Nat} {l : List Int} (h : SB w A c l) (m : Nat) : SB w A c (l.take m) := by
 obtain ⟨h1, h2⟩ := h
 refine ⟨by rw [List.length_take]; omega, ?_⟩
 rcases h2 with ⟨rfl, rfl, rfl⟩ | ⟨g, o, rfl, h3⟩
 ·
  exact .inl ⟨by simp, rfl, rfl⟩
 ·
  exact .inr ⟨g, o, rfl, h3.take m⟩
theorem SB.C {w : World} {A : Option Addr} {c : Nat} {l : List Int} (h : SB w A c l) (hl : l.length ≤ 9223372036854775807) : (Kd.int .u8).C w A l.length l := by
 obtain ⟨h1, ⟨rfl, rfl, rfl⟩ | ⟨g, o, rfl, h3⟩⟩ := h
 ·
  exact ⟨rfl, by simp, fun h => absurd h (by simp)⟩
 ·
  exact h3.C hl
theorem SB.src {w : World} {A : Option Addr} {c : Nat} {l : List Int} {P : Program} {tx e' : TypeId} (h : SB w A c l) (hl : l.length ≤ 9223372036854775807) (hk : P.underlying tx = some (.slice e')) : Src P 1 tx (.slice A l.length c) l.length (l.map (Value.int .u8)) w := src_C hk (h.C hl)
theorem SB.own {w : World} {te : TypeId} {A : Option Addr} {l : List Int} {c : Nat} {ow L : YtneoieigaakoaaaGreatDoor.dc.Bk} {B : Nat} {wb : World} (h : OwnB te (.slice A l.length c) l ow) (H : HH B wb w (ow ++ L)) : SB w A c l := by
 rcases Nat.eq_zero_or_pos l.length with h0 | h0
 ·
  obtain rfl := List.length_eq_zero_iff.1 h0
  obtain ⟨_, ⟨hv, _, _⟩ | ⟨g, cs, c', f, hv, hc, _, _, _, _⟩⟩ := h
  ·
   injection hv with e1 _ e3
   exact ⟨by simp, .inl ⟨rfl, e1, e3⟩⟩
  ·
   injection hv with e1 _ e3
   exact ⟨by simp, .inr ⟨g, 0, e1, fun i v hi => by simp at hi⟩⟩
 ·
  obtain ⟨g, rfl, hr, hc, _⟩ := h.rb H h0
  exact ⟨hc, .inr ⟨g, 0, rfl, hr⟩⟩
theorem sl_sb_lo {P : Program} {t e : TypeId} {w : World} {k : IntKind} {l : List Int} {m c : Nat} {A : Option Addr} {i : Int} (hu : P.underlying t = some (.slice e)) (hs : szB P e = some 1) (hi : i = (m : Int)) (hm : m ≤ l.length) :
  (Instr.sliceAt t (.slice A l.length c) (some (.int k i)) none none).run P w = .ok (.slice (cutAt A c m 1) (l.drop m).length (c - m)) w := by
 subst hi
 rw [sl_slice_lo hu hs (by omega) (by omega), Int.toNat_natCast, List.length_drop]
theorem bv8_get {l : List Int} (hby : ∀ x ∈ l, 0 ≤ x ∧ x < 256) {i : Nat} (hi : i < l.length) : l[i]? = some ((BitVec.ofInt 8 (l.getD i 0)).toNat : Int) := by
 rw [get_some 0 hi]
 have hm : l.getD i 0 ∈ l := by
  rw [List.getD_eq_getElem?_getD, List.getElem?_eq_getElem hi]
  exact List.getElem_mem hi
 have := hby _ hm
 congr 1
 rw [BitVec.toNat_ofInt]
 omega
theorem top8 (x : Int) (h : 0 ≤ x ∧ x < 256) : (BitVec.ofInt 8 x).getLsbD 7 = decide (128 ≤ x) := by
 have e : (BitVec.ofInt 8 x).getLsbD 7 = (BitVec.ofInt 8 x).msb := by simp [BitVec.msb_eq_getLsbD_last]
 rw [e, BitVec.msb_eq_decide, BitVec.toNat_ofInt]
 simp only [decide_eq_decide]
 omega
theorem word_bits (b0 b1 b2 b3 b4 b5 b6 b7 : BitVec 8) : ∀ k, k < 8 → ((((((((b0.setWidth 64) ||| ((b1.setWidth 64) <<< 8)) ||| ((b2.setWidth 64) <<< 16)) ||| ((b3.setWidth 64) <<< 24)) ||| ((b4.setWidth 64) <<< 32)) ||| ((b5.setWidth 64) <<< 40)) ||| ((b6.setWidth 64) <<< 48)) ||| ((b7.setWidth 64) <<< 56)).getLsbD (8 * k + 7) = ([b0, b1, b2, b3, b4, b5, b6, b7].getD k 0).getLsbD 7 := by
 intro k hk
 rcases (show k = 0 ∨ k = 1 ∨ k = 2 ∨ k = 3 ∨ k = 4 ∨ k = 5 ∨ k = 6 ∨ k = 7 by omega) with rfl | rfl | rfl | rfl | rfl | rfl | rfl | rfl <;> simp [BitVec.getLsbD_or, BitVec.getLsbD_shiftLeft, BitVec.getLsbD_setWidth]
theorem word_tops {l : List Int} (hby : ∀ x ∈ l, 0 ≤ x ∧ x < 256) (h8 : 8 ≤ l.length) : ∀ k, k < 8 → ([BitVec.ofInt 8 (l.getD 0 0), BitVec.ofInt 8 (l.getD 1 0), BitVec.ofInt 8 (l.getD 2 0), BitVec.ofInt 8 (l.getD 3 0), BitVec.ofInt 8 (l.getD 4 0), BitVec.ofInt 8 (l.getD 5 0), BitVec.ofInt 8 (l.getD 6 0), BitVec.ofInt 8 (l.getD 7 0)].getD k 0).getLsbD 7 = decide (128 ≤ l.getD k 0) := by
 intro k hk
 have hm : ∀ i, i < 8 → 0 ≤ l.getD i 0 ∧ l.getD i 0 < 256 := fun i hi => hby _ (by
  rw [List.getD_eq_getElem?_getD, List.getElem?_eq_getElem (show i < l.length by omega)]
  exact List.getElem_mem _)
 rcases (show k = 0 ∨ k = 1 ∨ k = 2 ∨ k = 3 ∨ k = 4 ∨ k = 5 ∨ k = 6 ∨ k = 7 by omega) with rfl | rfl | rfl | rfl | rfl | rfl | rfl | rfl <;> exact top8 _ (hm _ (by omega))
theorem mask_low {x : BitVec 64} (h : ((x &&& 9259542123273814144#64).toNat : Int) = 0) : ∀ k, k < 8 → x.getLsbD (8 * k + 7) = false := by
 intro k hk
 have h0 : x &&& 9259542123273814144#64 = 0#64 := BitVec.eq_of_toNat_eq (by rw [show (0#64).toNat = 0 from rfl]; omega)
 have h1 := congrArg (fun z => BitVec.getLsbD z (8 * k + 7)) h0
 simp only [BitVec.getLsbD_and] at h1
 rcases (show k = 0 ∨ k = 1 ∨ k = 2 ∨ k = 3 ∨ k = 4 ∨ k = 5 ∨ k = 6 ∨ k = 7 by omega) with rfl | rfl | rfl | rfl | rfl | rfl | rfl | rfl <;> simpa using h1
theorem mask_or {x y : BitVec 64} (h : (((x ||| y) &&& 9259542123273814144#64).toNat : Int) = 0) : ((x &&& 9259542123273814144#64).toNat : Int) = 0 ∧ ((y &&& 9259542123273814144#64).toNat : Int) = 0 := by
 have h0 : (x ||| y) &&& 9259542123273814144#64 = 0#64 := BitVec.eq_of_toNat_eq (by rw [show (0#64).toNat = 0 from rfl]; omega)
 have hx : x &&& 9259542123273814144#64 = 0#64 := by
  apply BitVec.eq_of_getLsbD_eq
  intro i hi
  have h1 := congrArg (fun z => BitVec.getLsbD z i) h0
  simp only [BitVec.getLsbD_and, BitVec.getLsbD_or] at h1 ⊢
  revert h1
  cases x.getLsbD i <;> simp
 have hy : y &&& 9259542123273814144#64 = 0#64 := by
  apply BitVec.eq_of_getLsbD_eq
  intro i hi
  have h1 := congrArg (fun z => BitVec.getLsbD z i) h0
  simp only [BitVec.getLsbD_and, BitVec.getLsbD_or] at h1 ⊢
  revert h1
  cases y.getLsbD i <;> simp
 rw [hx, hy]
 exact ⟨rfl, rfl⟩
theorem int_at (s : ByteArray) {i k j : Nat} (hj : j = i + k) (h : j < s.size) : ((ints s).drop i)[k]? = some (HHW.bt s (j : Int)) := by
 subst hj
 rw [List.getElem?_drop, ints_bt s h]
 have := HHW.bt_range s ((i + k : Nat) : Int)
 congr 1
 omega
theorem ints_by (s : ByteArray) (m : Nat) : ∀ x ∈ (ints s).drop m, 0 ≤ x ∧ x < 256 := fun x hx => by have := ints_range s x (List.mem_of_mem_drop hx); omega
open YtneoieigaakoaaaGreatDoor in
theorem V_skip {s : ByteArray} {i : Nat} : ∀ m : Nat, (∀ k, k < m → i + k < s.size ∧ HHW.bt s ((i + k : Nat) : Int) < 128) → up.V s i = up.V s (i + m)
 | 0, _ => rfl
 | m + 1, h => by
  rw [V_skip m (fun k hk => h k (by omega)), up.V_ascii (h m (by omega)).1 (h m (by omega)).2]
  rfl
open YtneoieigaakoaaaGreatDoor in
theorem V_word {s : ByteArray} {j : Nat} {x : BitVec 64} (hx : ∀ k, k < 8 → x.getLsbD (8 * k + 7) = decide (128 ≤ ((ints s).drop j).getD k 0)) (hm : ((x &&& 9259542123273814144#64).toNat : Int) = 0) (hj : j + 8 ≤ s.size) : up.V s j = up.V s (j + 8) :=
 V_skip 8 fun k hk => ⟨by omega, by
  have h1 := hx k hk
  rw [mask_low hm k hk, List.getD_eq_getElem?_getD, int_at s rfl (show j + k < s.size by omega)] at h1
  have := of_decide_eq_false h1.symm
  simp only [Option.getD_some] at this
  omega⟩
section
variable {P : Program} {F : List (Nat × Value)} {B : Nat} {w0 : World} {L : List (Nat × Obj)}
theorem r_tab {t : TypeId} {x : Operand} {g i j : Nat} {v : Value} (hx : ev F x = some (.pointer (some ⟨g, j, none⟩))) (hj : j = i) (hc : w0.cell? ⟨g, i, none⟩ = some v) (hB : B = w0.heap.size) (ha : aggB P t = some false) : Reads P F B w0 L (.load t x) v := by
 subst hj
 exact r_loadG hx hc (by rw [hB]; exact cell_lt hc) ha
theorem r_pairG {t : TypeId} {x : Operand} {g i j : Nat} {v0 v1 : Value} (hx : ev F x = some (.pointer (some ⟨g, j, none⟩))) (hj : j = i) (h0 : w0.cell? ⟨g, i, none⟩ = some v0) (h1 : w0.cell? ⟨g, i + 1, none⟩ = some v1) (hB : B = w0.heap.size) (ha : aggB P t = some true) (hs : szB P t = some 2) : Reads P F B w0 L (.load t x) (.agg #[v0, v1]) := by
 subst hj hB
 refine r_loads hx (fun w H => ldn ha (cs := [v0, v1]) hs (fun k v hk => ?_))
 match k, hk with
 | 0, hk => simp at hk; subst hk; exact cell_later h0 H.below
 | 1, hk => simp at hk; subst hk; exact cell_later h1 H.below
 | k + 2, hk => simp at hk
end
set_option maxRecDepth 20000 in
theorem and7 : ∀ X : Fin 256, IntKind.u8.wrap (BitVec.ofInt IntKind.u8.bits ((X.val : Nat) : Int) &&& BitVec.ofInt IntKind.u8.bits 7).toNat = ((X.val % 8 : Nat) : Int) := by decide
theorem shr4 (x : Nat) : ((x : Nat) : Int).fdiv (2 ^ (min (4 : Int).toNat IntKind.u8.bits)) = ((x / 16 : Nat) : Int) := by
 show ((x : Nat) : Int).fdiv (2 ^ 4) = _
 rw [Int.fdiv_eq_ediv_of_nonneg _ (by decide)]
 omega
theorem firstT_lt (n : Nat) : Lib.firstT n < 256 := by
 rcases Lib.firstT_cases n with h | h | h | h | h | h | h | h | h <;> omega
theorem sl_max {P : Program} {t e : TypeId} {w : World} {k k' : IntKind} {n c : Nat} {A : Option Addr} (hu : P.underlying t = some (.slice e)) (hs : szB P e = some 1) (hc : n ≤ c) :
  (Instr.sliceAt t (.slice A n c) none (some (.int k (n : Int))) (some (.int k' (n : Int)))).run P w = .ok (.slice A n n) w := by
 unfold Instr.sliceAt
 rw [Sem.run_bind, run_underlying hu]
 show (Instr.slice t (.slice A n c) none (some (.int k (n : Int))) (some (.int k' (n : Int)))).run P w = _
 unfold Instr.slice
 rw [Sem.run_bind, run_underlying hu]
 simp only [Result.andThen]
 have : (A.map (·.add (0 * 1))) = A := by cases A <;> simp [Addr.add]
 simp [Instr.sliceBounds, Instr.sliceBound, asIntOf, Sem.run_bind, Result.andThen, hc, run_size hs]
 intro _
 cases A <;> simp [Addr.add]
theorem SB.max {w : World} {A : Option Addr} {c : Nat} {l : List Int} (h : SB w A c l) : SB w A l.length l := by
 obtain ⟨h1, h2 | h2⟩ := h
 ·
  exact ⟨Nat.le_refl _, .inl ⟨h2.1, h2.2.1, by rw [h2.1]; rfl⟩⟩
 ·
  exact ⟨Nat.le_refl _, .inr h2⟩
end Go.Proofs.HHW
end
section
namespace Go.Proofs.YtneoieigaakoaaaGreatDoor.pf
open Go.Proofs.YtneoieigaakoaaaGreatDoor.fx
open Go.RowKit Go.Proofs.HHW Go.Proofs.YtneoieigaakoaaaGreatDoorW.PrintWords
namespace vl
theorem ag30 : aggB Tryz.prog 30 = some false := by kernel_rfl
theorem ag31 : aggB Tryz.prog 31 = some false := by kernel_rfl
theorem fa33_0 (w : World) (g o : Nat) : (Instr.fieldAt 33 (.pointer (some ⟨g, o, none⟩)) 0).run Tryz.prog w = .ok (.pointer (some ⟨g, o + 0, none⟩)) w := by kernel_rfl
theorem fa33_1 (w : World) (g o : Nat) : (Instr.fieldAt 33 (.pointer (some ⟨g, o, none⟩)) 1).run Tryz.prog w = .ok (.pointer (some ⟨g, o + 1, none⟩)) w := by kernel_rfl
theorem fa33_2 (w : World) (g o : Nat) : (Instr.fieldAt 33 (.pointer (some ⟨g, o, none⟩)) 2).run Tryz.prog w = .ok (.pointer (some ⟨g, o + 2, none⟩)) w := by kernel_rfl
theorem bld25_0_1 (x0_0 : Int) (x1_0 : ByteArray) : Tryz.prog.built 25 [(0, (.int .i64 x0_0)), (1, (.string x1_0))] = some #[.int .i64 x0_0, .string x1_0, .int .i64 0, .int .u64 0, .float .f64 0, .bool false] := by kernel_rfl
theorem bld25_0_2 (x0_0 : Int) (x1_0 : Int) : Tryz.prog.built 25 [(0, (.int .i64 x0_0)), (2, (.int .i64 x1_0))] = some #[.int .i64 x0_0, .string ⟨#[]⟩, .int .i64 x1_0, .int .u64 0, .float .f64 0, .bool false] := by kernel_rfl
theorem bld25_0_3 (x0_0 : Int) (x1_0 : Int) : Tryz.prog.built 25 [(0, (.int .i64 x0_0)), (3, (.int .u64 x1_0))] = some #[.int .i64 x0_0, .string ⟨#[]⟩, .int .i64 0, .int .u64 x1_0, .float .f64 0, .bool false] := by kernel_rfl
theorem bld25_0_4 (x0_0 : Int) (x1_0 : Nat) : Tryz.prog.built 25 [(0, (.int .i64 x0_0)), (4, (.float .f64 x1_0))] = some #[.int .i64 x0_0, .string ⟨#[]⟩, .int .i64 0, .int .u64 0, .float .f64 x1_0, .bool false] := by kernel_rfl
theorem bld25_0_5 (x0_0 : Int) (x1_0 : Bool) : Tryz.prog.built 25 [(0, (.int .i64 x0_0)), (5, (.bool x1_0))] = some #[.int .i64 x0_0, .string ⟨#[]⟩, .int .i64 0, .int .u64 0, .float .f64 0, .bool x1_0] := by kernel_rfl
theorem from_run (b : Int) (w : World) : (callFunc 45 #[.int .u64 b]).run Tryz.prog w = .ok (.value (.float .f64 b.toNat)) w := by kernel_rfl
theorem kind0_ (wb w0 : World) (B : Nat) (L0 : List (Nat × Obj)) (N : Int) (A : Option Addr) (c : Nat) (s : ByteArray) (hs : s.size ≤ 1000000) (hsb : ∀ w, HH B wb w L0 → SB w A c (ints s)) (H : HH B wb w0 L0) : Calls Tryz.prog 17 #[.agg #[.int .u64 N, .slice A (ints s).length c, .int .u8 0]] w0 fun e w' => e = .returned (.int .u8 1) ∧ HH B wb w' L0 := by
 refine c_enter (args := [.agg #[.int .u64 N, .slice A (ints s).length c, .int .u8 0]]) (k := 7) Tryz.func17 rfl rfl rfl (fun a S => ?_)
 refine wp_seq ?_
 refine c_region ?_
 refine l_box (cs := #[.int .u64 N, .slice A (ints s).length c, .int .u8 0]) S H rfl rfl (fun w => bx) rfl rfl rfl ?_; clear S a H; intro g1 w a H S
 refine l_mv 1 S rfl ?_; clear S a; intro a S
 refine l_nil ?_
 refine e_then ?_
 refine wp_seq ?_
 refine wp_seq ?_
 refine c_region ?_
 refine l_pure S (p_fieldAddr rfl (fun w => fa33_2 w _ _)) rfl rfl rfl ?_; clear S a; intro a S
 refine l_read S H (r_load rfl List.mem_cons_self rfl (fun w hc => ld1 ag31 hc)) rfl rfl rfl ?_; clear S a; intro a S
 refine l_pure S (p_eql rfl rfl) rfl rfl rfl ?_; clear S a; intro a S
 refine l_nil ?_
 refine e_then ?_
 refine c_cond (b := true) S rfl (fun _ => ?_) (fun h => by cases h)
 refine wp_seq ?_
 refine c_region ?_
 refine l_mv 1 S rfl ?_; clear S a; intro a S
 refine l_nil ?_
 refine e_then ?_
 refine wp_ret ?_
 refine e_then_ret ?_
 exact r_ret1 S rfl rfl ⟨rfl, H.tail⟩
theorem must0_ (wb w0 : World) (B : Nat) (L0 : List (Nat × Obj)) (N : Int) (A : Option Addr) (c : Nat) (s : ByteArray) (hs : s.size ≤ 1000000) (hsb : ∀ w, HH B wb w L0 → SB w A c (ints s)) (H : HH B wb w0 L0) : Calls Tryz.prog 44 #[.agg #[.int .u64 N, .slice A (ints s).length c, .int .u8 0], .int .u8 1] w0 fun e w' => e = .returned (.tuple #[]) ∧ HH B wb w' L0 := by
 refine c_enter (args := [.agg #[.int .u64 N, .slice A (ints s).length c, .int .u8 0], .int .u8 1]) (k := 7) Tryz.func44 rfl rfl rfl (fun a S => ?_)
 refine wp_seq ?_
 refine c_region ?_
 refine l_box (cs := #[.int .u64 N, .slice A (ints s).length c, .int .u8 0]) S H rfl rfl (fun w => bx) rfl rfl rfl ?_; clear S a H; intro g1 w a H S
 refine l_nil ?_
 refine e_then ?_
 refine wp_seq ?_
 refine c_region ?_
 refine l_read S H (r_loadn (m := 3) (vs := [.int .u64 N, .slice A (ints s).length c, .int .u8 0]) rfl List.mem_cons_self ag33 sz33 rfl rfl) rfl rfl rfl ?_; clear S a; intro a S
 have hcon := kind0_ wb _ B _ N A c s hs (fun w H => hsb w H.tail) H
 refine l_call S rfl rfl Tryz.func17 rfl rfl (hcon) rfl rfl rfl ?_
 rintro e w ⟨rfl, hH⟩
 refine ⟨_, rfl, ?_⟩; clear S a; intro a S
 clear H hcon; have H := hH; clear hH
 refine l_mv 1 S rfl ?_; clear S a; intro a S
 refine l_pure S (p_neq rfl rfl) rfl rfl rfl ?_; clear S a; intro a S
 refine l_nil ?_
 refine e_then ?_
 refine c_cond (b := false) S rfl (fun h => by cases h) (fun _ => ?_)
 refine wp_skip ?_
 exact r_end0 S rfl ⟨rfl, H.tail⟩
theorem acc0_ (wb w0 : World) (B : Nat) (L0 : List (Nat × Obj)) (N : Int) (A : Option Addr) (c : Nat) (s : ByteArray) (hs : s.size ≤ 1000000) (hsb : ∀ w, HH B wb w L0 → SB w A c (ints s)) (H : HH B wb w0 L0) : Calls Tryz.prog 30 #[.agg #[.int .u64 N, .slice A (ints s).length c, .int .u8 0]] w0 fun e w' => e = .returned (.string s) ∧ HH B wb w' L0 := by
 refine c_enter (args := [.agg #[.int .u64 N, .slice A (ints s).length c, .int .u8 0]]) (k := 7) Tryz.func30 rfl rfl rfl (fun a S => ?_)
 refine wp_seq ?_
 refine c_region ?_
 refine l_box (cs := #[.int .u64 N, .slice A (ints s).length c, .int .u8 0]) S H rfl rfl (fun w => bx) rfl rfl rfl ?_; clear S a H; intro g1 w a H S
 refine l_mv 1 S rfl ?_; clear S a; intro a S
 refine l_nil ?_
 refine e_then ?_
 refine wp_seq ?_
 refine c_region ?_
 refine l_read S H (r_loadn (m := 3) (vs := [.int .u64 N, .slice A (ints s).length c, .int .u8 0]) rfl List.mem_cons_self ag33 sz33 rfl rfl) rfl rfl rfl ?_; clear S a; intro a S
 have hcon := must0_ wb _ B _ N A c s hs (fun w H => hsb w H.tail) H
 refine l_call S rfl rfl Tryz.func44 rfl rfl (hcon) rfl rfl rfl ?_
 rintro e w ⟨rfl, hH⟩
 refine ⟨_, rfl, ?_⟩; clear S a; intro a S
 clear H hcon; have H := hH; clear hH
 refine l_nil ?_
 refine e_then ?_
 refine wp_seq ?_
 refine c_region ?_
 refine l_pure S (p_fieldAddr rfl (fun w => fa33_1 w _ _)) rfl rfl rfl ?_; clear S a; intro a S
 refine l_read S H (r_load rfl List.mem_cons_self rfl (fun w hc => ld1 ag30 hc)) rfl rfl rfl ?_; clear S a; intro a S
 have hC := (hsb _ H.tail).C (by rw [ints_len]; omega)
 refine l_str S rfl rfl Tryz.underlying30 Tryz.underlying5 Tryz.underlying9 hC rfl rfl rfl ?_; clear S a; intro a S
 rw [vp.nums_ints] at S
 refine l_mv 1 S rfl ?_; clear S a; intro a S
 refine l_nil ?_
 refine e_then ?_
 refine wp_ret ?_
 exact r_ret1 S rfl rfl ⟨rfl, H.tail⟩
theorem accd0_ (wb w0 : World) (B : Nat) (L0 : List (Nat × Obj)) (N : Int) (A : Option Addr) (c : Nat) (s : ByteArray) (hs : s.size ≤ 1000000) (hsb : ∀ w, HH B wb w L0 → SB w A c (ints s)) (H : HH B wb w0 L0) : Calls Tryz.prog 16 #[.agg #[.int .u64 N, .slice A (ints s).length c, .int .u8 0], .int .i64 1] w0 fun e w' => e = .returned (.agg #[.int .i64 1, .string s, .int .i64 0, .int .u64 0, .float .f64 0, .bool false]) ∧ HH B wb w' L0 := by
 refine c_enter (args := [.agg #[.int .u64 N, .slice A (ints s).length c, .int .u8 0], .int .i64 1]) (k := 30) Tryz.func16 rfl rfl rfl (fun a S => ?_)
 refine wp_seq ?_
 refine c_region ?_
 refine l_box (cs := #[.int .u64 N, .slice A (ints s).length c, .int .u8 0]) S H rfl rfl (fun w => bx) rfl rfl rfl ?_; clear S a H; intro g1 w a H S
 refine l_alloc (cs := #[.int .i64 0, .string ⟨#[]⟩, .int .i64 0, .int .u64 0, .float .f64 0, .bool false]) S H rfl (fun w => al zv25) rfl rfl rfl ?_; clear S a H; intro g2 w a H S
 refine l_nil ?_
 refine e_then ?_
 refine wp_seq ?_
 refine wp_seq ?_
 refine c_region ?_
 refine l_mv 1 S rfl ?_; clear S a; intro a S
 refine l_nil ?_
 refine e_then ?_
 refine wp_block ?_
 refine wp_seq ?_
 refine c_region ?_
 refine l_pure S (p_eql rfl rfl) rfl rfl rfl ?_; clear S a; intro a S
 refine l_mv 1 S rfl ?_; clear S a; intro a S
 refine l_nil ?_
 refine e_then ?_
 refine c_cond (b := true) S rfl (fun _ => ?_) (fun h => by cases h)
 refine wp_seq ?_
 refine c_region ?_
 refine l_read S H (r_loadn (m := 3) (vs := [.int .u64 N, .slice A (ints s).length c, .int .u8 0]) rfl (List.mem_cons_of_mem _ List.mem_cons_self) ag33 sz33 rfl rfl) rfl rfl rfl ?_; clear S a; intro a S
 have hcon := acc0_ wb _ B _ N A c s hs (fun w H => hsb w H.tail.tail) H
 refine l_call S rfl rfl Tryz.func30 rfl rfl (hcon) rfl rfl rfl ?_
 rintro e w ⟨rfl, hH⟩
 refine ⟨_, rfl, ?_⟩; clear S a; intro a S
 clear H hcon; have H := hH; clear hH
 refine l_pure S (p_bld (ps := [(0, .const (.int .i64 1)), (1, .tmp 9)]) rfl (bld25_0_1 _ _)) rfl rfl rfl ?_; clear S a; intro a S
 refine l_storeAll (vs := [.int .i64 1, .string s, .int .i64 0, .int .u64 0, .float .f64 0, .bool false]) S H rfl rfl rfl sz25 .here rfl (fun v hv => by simp only [List.mem_cons, List.not_mem_nil, or_false] at hv; rcases hv with rfl | rfl | rfl | rfl | rfl | rfl <;> rfl) rfl rfl ?_; clear S a H; intro w a H S
 refine l_nil ?_
 refine e_then ?_
 refine wp_ret ?_
 refine e_in_ret ?_
 refine e_then_ret ?_
 exact r_retc1 S rfl rfl (lva (cs := [.int .i64 1, .string s, .int .i64 0, .int .u64 0, .float .f64 0, .bool false]) ag25 sz25 rfl H List.mem_cons_self) ⟨rfl, H.tail.tail⟩
theorem plain0_ (wb w0 : World) (B : Nat) (L0 : List (Nat × Obj)) (N : Int) (A : Option Addr) (c : Nat) (s : ByteArray) (hs : s.size ≤ 1000000) (hsb : ∀ w, HH B wb w L0 → SB w A c (ints s)) (H : HH B wb w0 L0) : Calls Tryz.prog 10 #[.agg #[.int .u64 N, .slice A (ints s).length c, .int .u8 0]] w0 fun e w' => e = .returned (.agg #[.int .i64 1, .string s, .int .i64 0, .int .u64 0, .float .f64 0, .bool false]) ∧ HH B wb w' L0 := by
 refine c_enter (args := [.agg #[.int .u64 N, .slice A (ints s).length c, .int .u8 0]]) (k := 7) Tryz.func10 rfl rfl rfl (fun a S => ?_)
 refine wp_seq ?_
 refine c_region ?_
 refine l_box (cs := #[.int .u64 N, .slice A (ints s).length c, .int .u8 0]) S H rfl rfl (fun w => bx) rfl rfl rfl ?_; clear S a H; intro g1 w a H S
 refine l_alloc (cs := #[.int .i64 0, .string ⟨#[]⟩, .int .i64 0, .int .u64 0, .float .f64 0, .bool false]) S H rfl (fun w => al zv25) rfl rfl rfl ?_; clear S a H; intro g2 w a H S
 refine l_nil ?_
 refine e_then ?_
 refine wp_seq ?_
 refine d_start (id := 1) [5] 6 #[false, false, false, false, false, false] H rfl rfl rfl (fun w H => ?_)
 refine d_read (i := 0) #[true, false, false, false, false, false] S H rfl (r_loadn (m := 3) (vs := [.int .u64 N, .slice A (ints s).length c, .int .u8 0]) rfl (List.mem_cons_of_mem _ List.mem_cons_self) ag33 sz33 rfl rfl) (wanted_none rfl) rfl rfl (by kernel_rfl) (fun _ _ _ h => h) ?_; clear S a; intro a S
 refine d_read (i := 1) #[true, true, false, false, false, false] S H rfl (r_loadn (m := 3) (vs := [.int .u64 N, .slice A (ints s).length c, .int .u8 0]) rfl (List.mem_cons_of_mem _ List.mem_cons_self) ag33 sz33 rfl rfl) (wanted_none rfl) rfl rfl (by kernel_rfl) (fun _ _ _ h => h) ?_; clear S a; intro a S
 have hcon := kind0_ wb _ B _ N A c s hs (fun w H => hsb w H.tail.tail) H
 refine d_call (i := 2) #[true, true, true, false, false, false] S rfl rfl rfl Tryz.func17 rfl rfl hcon (wanted_none rfl) rfl rfl (by kernel_rfl) rfl ?_
 rintro e w ⟨rfl, hH⟩; refine ⟨_, rfl, hH, ?_⟩; clear hcon H; have H := hH; clear hH; clear S a; intro a S
 refine d_pure (i := 3) #[true, true, true, true, false, false] S rfl (p_conv rfl (fun w => cv_int (Tryz.underlying31) (Tryz.underlying3) (r := 1) (by decide))) (wanted_none rfl) rfl rfl (by kernel_rfl) (fun _ _ _ h => h) ?_; clear S a; intro a S
 have hcon := accd0_ wb _ B _ N A c s hs (fun w H => hsb w H.tail.tail) H
 refine d_call (i := 4) #[true, true, true, true, true, false] S rfl rfl rfl Tryz.func16 rfl rfl hcon (wanted_none rfl) rfl rfl (by kernel_rfl) rfl ?_
 rintro e w ⟨rfl, hH⟩; refine ⟨_, rfl, hH, ?_⟩; clear hcon H; have H := hH; clear hH; clear S a; intro a S
 refine d_storeAll (i := 5) (vs := [.int .i64 1, .string s, .int .i64 0, .int .u64 0, .float .f64 0, .bool false]) #[true, true, true, true, true, true] S H rfl rfl rfl rfl sz25 .here rfl (fun v hv => by simp only [List.mem_cons, List.not_mem_nil, or_false] at hv; rcases hv with rfl | rfl | rfl | rfl | rfl | rfl <;> rfl) (wanted_none rfl) rfl (by kernel_rfl) rfl ?_; clear S a H; intro w a H S
 refine d_done (by kernel_rfl) ?_
 refine e_then ?_
 refine wp_ret ?_
 exact r_retc1 S rfl rfl (lva (cs := [.int .i64 1, .string s, .int .i64 0, .int .u64 0, .float .f64 0, .bool false]) ag25 sz25 rfl H List.mem_cons_self) ⟨rfl, H.tail.tail⟩
theorem kind2_ (wb w0 : World) (B : Nat) (L0 : List (Nat × Obj)) (N : Int) (A : Option Addr) (n c : Nat) (H : HH B wb w0 L0) : Calls Tryz.prog 17 #[.agg #[.int .u64 N, .slice A n c, .int .u8 2]] w0 fun e w' => e = .returned (.int .u8 2) ∧ HH B wb w' L0 := by
 refine c_enter (args := [.agg #[.int .u64 N, .slice A n c, .int .u8 2]]) (k := 7) Tryz.func17 rfl rfl rfl (fun a S => ?_)
 refine wp_seq ?_
 refine c_region ?_
 refine l_box (cs := #[.int .u64 N, .slice A n c, .int .u8 2]) S H rfl rfl (fun w => bx) rfl rfl rfl ?_; clear S a H; intro g1 w a H S
 refine l_mv 1 S rfl ?_; clear S a; intro a S
 refine l_nil ?_
 refine e_then ?_
 refine wp_seq ?_
 refine wp_seq ?_
 refine c_region ?_
 refine l_pure S (p_fieldAddr rfl (fun w => fa33_2 w _ _)) rfl rfl rfl ?_; clear S a; intro a S
 refine l_read S H (r_load rfl List.mem_cons_self rfl (fun w hc => ld1 ag31 hc)) rfl rfl rfl ?_; clear S a; intro a S
 refine l_pure S (p_eql rfl rfl) rfl rfl rfl ?_; clear S a; intro a S
 refine l_nil ?_
 refine e_then ?_
 refine c_cond (b := false) S rfl (fun h => by cases h) (fun _ => ?_)
 refine wp_skip ?_
 refine e_then ?_
 refine wp_seq ?_
 refine c_region ?_
 refine l_pure S (p_fieldAddr rfl (fun w => fa33_2 w _ _)) rfl rfl rfl ?_; clear S a; intro a S
 refine l_read S H (r_load rfl List.mem_cons_self rfl (fun w hc => ld1 ag31 hc)) rfl rfl rfl ?_; clear S a; intro a S
 refine l_mv 1 S rfl ?_; clear S a; intro a S
 refine l_nil ?_
 refine e_then ?_
 refine wp_ret ?_
 exact r_ret1 S rfl rfl ⟨rfl, H.tail⟩
theorem must2_ (wb w0 : World) (B : Nat) (L0 : List (Nat × Obj)) (N : Int) (A : Option Addr) (n c : Nat) (H : HH B wb w0 L0) : Calls Tryz.prog 44 #[.agg #[.int .u64 N, .slice A n c, .int .u8 2], .int .u8 2] w0 fun e w' => e = .returned (.tuple #[]) ∧ HH B wb w' L0 := by
 refine c_enter (args := [.agg #[.int .u64 N, .slice A n c, .int .u8 2], .int .u8 2]) (k := 7) Tryz.func44 rfl rfl rfl (fun a S => ?_)
 refine wp_seq ?_
 refine c_region ?_
 refine l_box (cs := #[.int .u64 N, .slice A n c, .int .u8 2]) S H rfl rfl (fun w => bx) rfl rfl rfl ?_; clear S a H; intro g1 w a H S
 refine l_nil ?_
 refine e_then ?_
 refine wp_seq ?_
 refine c_region ?_
 refine l_read S H (r_loadn (m := 3) (vs := [.int .u64 N, .slice A n c, .int .u8 2]) rfl List.mem_cons_self ag33 sz33 rfl rfl) rfl rfl rfl ?_; clear S a; intro a S
 have hcon := kind2_ wb _ B _ N A n c H
 refine l_call S rfl rfl Tryz.func17 rfl rfl (hcon) rfl rfl rfl ?_
 rintro e w ⟨rfl, hH⟩
 refine ⟨_, rfl, ?_⟩; clear S a; intro a S
 clear H hcon; have H := hH; clear hH
 refine l_mv 1 S rfl ?_; clear S a; intro a S
 refine l_pure S (p_neq rfl rfl) rfl rfl rfl ?_; clear S a; intro a S
 refine l_nil ?_
 refine e_then ?_
 refine c_cond (b := false) S rfl (fun h => by cases h) (fun _ => ?_)
 refine wp_skip ?_
 exact r_end0 S rfl ⟨rfl, H.tail⟩
theorem acc2_ (wb w0 : World) (B : Nat) (L0 : List (Nat × Obj)) (N : Int) (A : Option Addr) (n c : Nat) (H : HH B wb w0 L0) : Calls Tryz.prog 31 #[.agg #[.int .u64 N, .slice A n c, .int .u8 2]] w0 fun e w' => e = .returned (.int .i64 (IntKind.i64.wrap N)) ∧ HH B wb w' L0 := by
 refine c_enter (args := [.agg #[.int .u64 N, .slice A n c, .int .u8 2]]) (k := 7) Tryz.func31 rfl rfl rfl (fun a S => ?_)
 refine wp_seq ?_
 refine c_region ?_
 refine l_box (cs := #[.int .u64 N, .slice A n c, .int .u8 2]) S H rfl rfl (fun w => bx) rfl rfl rfl ?_; clear S a H; intro g1 w a H S
 refine l_mv 1 S rfl ?_; clear S a; intro a S
 refine l_nil ?_
 refine e_then ?_
 refine wp_seq ?_
 refine c_region ?_
 refine l_read S H (r_loadn (m := 3) (vs := [.int .u64 N, .slice A n c, .int .u8 2]) rfl List.mem_cons_self ag33 sz33 rfl rfl) rfl rfl rfl ?_; clear S a; intro a S
 have hcon := must2_ wb _ B _ N A n c H
 refine l_call S rfl rfl Tryz.func44 rfl rfl (hcon) rfl rfl rfl ?_
 rintro e w ⟨rfl, hH⟩
 refine ⟨_, rfl, ?_⟩; clear S a; intro a S
 clear H hcon; have H := hH; clear hH
 refine l_nil ?_
 refine e_then ?_
 refine wp_seq ?_
 refine c_region ?_
 refine l_pure S (p_fieldAddr rfl (fun w => fa33_0 w _ _)) rfl rfl rfl ?_; clear S a; intro a S
 refine l_read S H (r_load rfl List.mem_cons_self rfl (fun w hc => ld1 ag22 hc)) rfl rfl rfl ?_; clear S a; intro a S
 refine l_pure S (p_conv rfl (fun w => cv_int (Tryz.underlying22) (Tryz.underlying2) (r := (IntKind.i64.wrap N)) rfl)) rfl rfl rfl ?_; clear S a; intro a S
 refine l_mv 1 S rfl ?_; clear S a; intro a S
 refine l_nil ?_
 refine e_then ?_
 refine wp_ret ?_
 exact r_ret1 S rfl rfl ⟨rfl, H.tail⟩
theorem accd2_ (wb w0 : World) (B : Nat) (L0 : List (Nat × Obj)) (N : Int) (A : Option Addr) (n c : Nat) (H : HH B wb w0 L0) : Calls Tryz.prog 16 #[.agg #[.int .u64 N, .slice A n c, .int .u8 2], .int .i64 2] w0 fun e w' => e = .returned (.agg #[.int .i64 2, .string ⟨#[]⟩, .int .i64 (IntKind.i64.wrap N), .int .u64 0, .float .f64 0, .bool false]) ∧ HH B wb w' L0 := by
 refine c_enter (args := [.agg #[.int .u64 N, .slice A n c, .int .u8 2], .int .i64 2]) (k := 30) Tryz.func16 rfl rfl rfl (fun a S => ?_)
 refine wp_seq ?_
 refine c_region ?_
 refine l_box (cs := #[.int .u64 N, .slice A n c, .int .u8 2]) S H rfl rfl (fun w => bx) rfl rfl rfl ?_; clear S a H; intro g1 w a H S
 refine l_alloc (cs := #[.int .i64 0, .string ⟨#[]⟩, .int .i64 0, .int .u64 0, .float .f64 0, .bool false]) S H rfl (fun w => al zv25) rfl rfl rfl ?_; clear S a H; intro g2 w a H S
 refine l_nil ?_
 refine e_then ?_
 refine wp_seq ?_
 refine wp_seq ?_
 refine c_region ?_
 refine l_mv 1 S rfl ?_; clear S a; intro a S
 refine l_nil ?_
 refine e_then ?_
 refine wp_block ?_
 refine wp_seq ?_
 refine c_region ?_
 refine l_pure S (p_eql rfl rfl) rfl rfl rfl ?_; clear S a; intro a S
 refine l_mv 1 S rfl ?_; clear S a; intro a S
 refine l_nil ?_
 refine e_then ?_
 refine c_cond (b := false) S rfl (fun h => by cases h) (fun _ => ?_)
 refine wp_seq ?_
 refine c_region ?_
 refine l_pure S (p_eql rfl rfl) rfl rfl rfl ?_; clear S a; intro a S
 refine l_mv 1 S rfl ?_; clear S a; intro a S
 refine l_nil ?_
 refine e_then ?_
 refine c_cond (b := true) S rfl (fun _ => ?_) (fun h => by cases h)
 refine wp_seq ?_
 refine c_region ?_
 refine l_read S H (r_loadn (m := 3) (vs := [.int .u64 N, .slice A n c, .int .u8 2]) rfl (List.mem_cons_of_mem _ List.mem_cons_self) ag33 sz33 rfl rfl) rfl rfl rfl ?_; clear S a; intro a S
 have hcon := acc2_ wb _ B _ N A n c H
 refine l_call S rfl rfl Tryz.func31 rfl rfl (hcon) rfl rfl rfl ?_
 rintro e w ⟨rfl, hH⟩
 refine ⟨_, rfl, ?_⟩; clear S a; intro a S
 clear H hcon; have H := hH; clear hH
 refine l_pure S (p_bld (ps := [(0, .const (.int .i64 2)), (2, .tmp 14)]) rfl (bld25_0_2 _ _)) rfl rfl rfl ?_; clear S a; intro a S
 refine l_storeAll (vs := [.int .i64 2, .string ⟨#[]⟩, .int .i64 (IntKind.i64.wrap N), .int .u64 0, .float .f64 0, .bool false]) S H rfl rfl rfl sz25 .here rfl (fun v hv => by simp only [List.mem_cons, List.not_mem_nil, or_false] at hv; rcases hv with rfl | rfl | rfl | rfl | rfl | rfl <;> rfl) rfl rfl ?_; clear S a H; intro w a H S
 refine l_nil ?_
 refine e_then ?_
 refine wp_ret ?_
 refine e_in_ret ?_
 refine e_then_ret ?_
 exact r_retc1 S rfl rfl (lva (cs := [.int .i64 2, .string ⟨#[]⟩, .int .i64 (IntKind.i64.wrap N), .int .u64 0, .float .f64 0, .bool false]) ag25 sz25 rfl H List.mem_cons_self) ⟨rfl, H.tail.tail⟩
theorem plain2_ (wb w0 : World) (B : Nat) (L0 : List (Nat × Obj)) (N : Int) (A : Option Addr) (n c : Nat) (H : HH B wb w0 L0) : Calls Tryz.prog 10 #[.agg #[.int .u64 N, .slice A n c, .int .u8 2]] w0 fun e w' => e = .returned (.agg #[.int .i64 2, .string ⟨#[]⟩, .int .i64 (IntKind.i64.wrap N), .int .u64 0, .float .f64 0, .bool false]) ∧ HH B wb w' L0 := by
 refine c_enter (args := [.agg #[.int .u64 N, .slice A n c, .int .u8 2]]) (k := 7) Tryz.func10 rfl rfl rfl (fun a S => ?_)
 refine wp_seq ?_
 refine c_region ?_
 refine l_box (cs := #[.int .u64 N, .slice A n c, .int .u8 2]) S H rfl rfl (fun w => bx) rfl rfl rfl ?_; clear S a H; intro g1 w a H S
 refine l_alloc (cs := #[.int .i64 0, .string ⟨#[]⟩, .int .i64 0, .int .u64 0, .float .f64 0, .bool false]) S H rfl (fun w => al zv25) rfl rfl rfl ?_; clear S a H; intro g2 w a H S
 refine l_nil ?_
 refine e_then ?_
 refine wp_seq ?_
 refine d_start (id := 1) [5] 6 #[false, false, false, false, false, false] H rfl rfl rfl (fun w H => ?_)
 refine d_read (i := 0) #[true, false, false, false, false, false] S H rfl (r_loadn (m := 3) (vs := [.int .u64 N, .slice A n c, .int .u8 2]) rfl (List.mem_cons_of_mem _ List.mem_cons_self) ag33 sz33 rfl rfl) (wanted_none rfl) rfl rfl (by kernel_rfl) (fun _ _ _ h => h) ?_; clear S a; intro a S
 refine d_read (i := 1) #[true, true, false, false, false, false] S H rfl (r_loadn (m := 3) (vs := [.int .u64 N, .slice A n c, .int .u8 2]) rfl (List.mem_cons_of_mem _ List.mem_cons_self) ag33 sz33 rfl rfl) (wanted_none rfl) rfl rfl (by kernel_rfl) (fun _ _ _ h => h) ?_; clear S a; intro a S
 have hcon := kind2_ wb _ B _ N A n c H
 refine d_call (i := 2) #[true, true, true, false, false, false] S rfl rfl rfl Tryz.func17 rfl rfl hcon (wanted_none rfl) rfl rfl (by kernel_rfl) rfl ?_
 rintro e w ⟨rfl, hH⟩; refine ⟨_, rfl, hH, ?_⟩; clear hcon H; have H := hH; clear hH; clear S a; intro a S
 refine d_pure (i := 3) #[true, true, true, true, false, false] S rfl (p_conv rfl (fun w => cv_int (Tryz.underlying31) (Tryz.underlying3) (r := 2) (by decide))) (wanted_none rfl) rfl rfl (by kernel_rfl) (fun _ _ _ h => h) ?_; clear S a; intro a S
 have hcon := accd2_ wb _ B _ N A n c H
 refine d_call (i := 4) #[true, true, true, true, true, false] S rfl rfl rfl Tryz.func16 rfl rfl hcon (wanted_none rfl) rfl rfl (by kernel_rfl) rfl ?_
 rintro e w ⟨rfl, hH⟩; refine ⟨_, rfl, hH, ?_⟩; clear hcon H; have H := hH; clear hH; clear S a; intro a S
 refine d_storeAll (i := 5) (vs := [.int .i64 2, .string ⟨#[]⟩, .int .i64 (IntKind.i64.wrap N), .int .u64 0, .float .f64 0, .bool false]) #[true, true, true, true, true, true] S H rfl rfl rfl rfl sz25 .here rfl (fun v hv => by simp only [List.mem_cons, List.not_mem_nil, or_false] at hv; rcases hv with rfl | rfl | rfl | rfl | rfl | rfl <;> rfl) (wanted_none rfl) rfl (by kernel_rfl) rfl ?_; clear S a H; intro w a H S
 refine d_done (by kernel_rfl) ?_
 refine e_then ?_
 refine wp_ret ?_
 exact r_retc1 S rfl rfl (lva (cs := [.int .i64 2, .string ⟨#[]⟩, .int .i64 (IntKind.i64.wrap N), .int .u64 0, .float .f64 0, .bool false]) ag25 sz25 rfl H List.mem_cons_self) ⟨rfl, H.tail.tail⟩
theorem kind3_ (wb w0 : World) (B : Nat) (L0 : List (Nat × Obj)) (N : Int) (A : Option Addr) (n c : Nat) (H : HH B wb w0 L0) : Calls Tryz.prog 17 #[.agg #[.int .u64 N, .slice A n c, .int .u8 3]] w0 fun e w' => e = .returned (.int .u8 3) ∧ HH B wb w' L0 := by
 refine c_enter (args := [.agg #[.int .u64 N, .slice A n c, .int .u8 3]]) (k := 7) Tryz.func17 rfl rfl rfl (fun a S => ?_)
 refine wp_seq ?_
 refine c_region ?_
 refine l_box (cs := #[.int .u64 N, .slice A n c, .int .u8 3]) S H rfl rfl (fun w => bx) rfl rfl rfl ?_; clear S a H; intro g1 w a H S
 refine l_mv 1 S rfl ?_; clear S a; intro a S
 refine l_nil ?_
 refine e_then ?_
 refine wp_seq ?_
 refine wp_seq ?_
 refine c_region ?_
 refine l_pure S (p_fieldAddr rfl (fun w => fa33_2 w _ _)) rfl rfl rfl ?_; clear S a; intro a S
 refine l_read S H (r_load rfl List.mem_cons_self rfl (fun w hc => ld1 ag31 hc)) rfl rfl rfl ?_; clear S a; intro a S
 refine l_pure S (p_eql rfl rfl) rfl rfl rfl ?_; clear S a; intro a S
 refine l_nil ?_
 refine e_then ?_
 refine c_cond (b := false) S rfl (fun h => by cases h) (fun _ => ?_)
 refine wp_skip ?_
 refine e_then ?_
 refine wp_seq ?_
 refine c_region ?_
 refine l_pure S (p_fieldAddr rfl (fun w => fa33_2 w _ _)) rfl rfl rfl ?_; clear S a; intro a S
 refine l_read S H (r_load rfl List.mem_cons_self rfl (fun w hc => ld1 ag31 hc)) rfl rfl rfl ?_; clear S a; intro a S
 refine l_mv 1 S rfl ?_; clear S a; intro a S
 refine l_nil ?_
 refine e_then ?_
 refine wp_ret ?_
 exact r_ret1 S rfl rfl ⟨rfl, H.tail⟩
theorem must3_ (wb w0 : World) (B : Nat) (L0 : List (Nat × Obj)) (N : Int) (A : Option Addr) (n c : Nat) (H : HH B wb w0 L0) : Calls Tryz.prog 44 #[.agg #[.int .u64 N, .slice A n c, .int .u8 3], .int .u8 3] w0 fun e w' => e = .returned (.tuple #[]) ∧ HH B wb w' L0 := by
 refine c_enter (args := [.agg #[.int .u64 N, .slice A n c, .int .u8 3], .int .u8 3]) (k := 7) Tryz.func44 rfl rfl rfl (fun a S => ?_)
 refine wp_seq ?_
 refine c_region ?_
 refine l_box (cs := #[.int .u64 N, .slice A n c, .int .u8 3]) S H rfl rfl (fun w => bx) rfl rfl rfl ?_; clear S a H; intro g1 w a H S
 refine l_nil ?_
 refine e_then ?_
 refine wp_seq ?_
 refine c_region ?_
 refine l_read S H (r_loadn (m := 3) (vs := [.int .u64 N, .slice A n c, .int .u8 3]) rfl List.mem_cons_self ag33 sz33 rfl rfl) rfl rfl rfl ?_; clear S a; intro a S
 have hcon := kind3_ wb _ B _ N A n c H
 refine l_call S rfl rfl Tryz.func17 rfl rfl (hcon) rfl rfl rfl ?_
 rintro e w ⟨rfl, hH⟩
 refine ⟨_, rfl, ?_⟩; clear S a; intro a S
 clear H hcon; have H := hH; clear hH
 refine l_mv 1 S rfl ?_; clear S a; intro a S
 refine l_pure S (p_neq rfl rfl) rfl rfl rfl ?_; clear S a; intro a S
 refine l_nil ?_
 refine e_then ?_
 refine c_cond (b := false) S rfl (fun h => by cases h) (fun _ => ?_)
 refine wp_skip ?_
 exact r_end0 S rfl ⟨rfl, H.tail⟩
theorem acc3_ (wb w0 : World) (B : Nat) (L0 : List (Nat × Obj)) (N : Int) (A : Option Addr) (n c : Nat) (H : HH B wb w0 L0) : Calls Tryz.prog 32 #[.agg #[.int .u64 N, .slice A n c, .int .u8 3]] w0 fun e w' => e = .returned (.int .u64 N) ∧ HH B wb w' L0 := by
 refine c_enter (args := [.agg #[.int .u64 N, .slice A n c, .int .u8 3]]) (k := 6) Tryz.func32 rfl rfl rfl (fun a S => ?_)
 refine wp_seq ?_
 refine c_region ?_
 refine l_box (cs := #[.int .u64 N, .slice A n c, .int .u8 3]) S H rfl rfl (fun w => bx) rfl rfl rfl ?_; clear S a H; intro g1 w a H S
 refine l_mv 1 S rfl ?_; clear S a; intro a S
 refine l_nil ?_
 refine e_then ?_
 refine wp_seq ?_
 refine c_region ?_
 refine l_read S H (r_loadn (m := 3) (vs := [.int .u64 N, .slice A n c, .int .u8 3]) rfl List.mem_cons_self ag33 sz33 rfl rfl) rfl rfl rfl ?_; clear S a; intro a S
 have hcon := must3_ wb _ B _ N A n c H
 refine l_call S rfl rfl Tryz.func44 rfl rfl (hcon) rfl rfl rfl ?_
 rintro e w ⟨rfl, hH⟩
 refine ⟨_, rfl, ?_⟩; clear S a; intro a S
 clear H hcon; have H := hH; clear hH
 refine l_nil ?_
 refine e_then ?_
 refine wp_seq ?_
 refine c_region ?_
 refine l_pure S (p_fieldAddr rfl (fun w => fa33_0 w _ _)) rfl rfl rfl ?_; clear S a; intro a S
 refine l_read S H (r_load rfl List.mem_cons_self rfl (fun w hc => ld1 ag22 hc)) rfl rfl rfl ?_; clear S a; intro a S
 refine l_mv 1 S rfl ?_; clear S a; intro a S
 refine l_nil ?_
 refine e_then ?_
 refine wp_ret ?_
 exact r_ret1 S rfl rfl ⟨rfl, H.tail⟩
theorem accd3_ (wb w0 : World) (B : Nat) (L0 : List (Nat × Obj)) (N : Int) (A : Option Addr) (n c : Nat) (H : HH B wb w0 L0) : Calls Tryz.prog 16 #[.agg #[.int .u64 N, .slice A n c, .int .u8 3], .int .i64 3] w0 fun e w' => e = .returned (.agg #[.int .i64 3, .string ⟨#[]⟩, .int .i64 0, .int .u64 N, .float .f64 0, .bool false]) ∧ HH B wb w' L0 := by
 refine c_enter (args := [.agg #[.int .u64 N, .slice A n c, .int .u8 3], .int .i64 3]) (k := 30) Tryz.func16 rfl rfl rfl (fun a S => ?_)
 refine wp_seq ?_
 refine c_region ?_
 refine l_box (cs := #[.int .u64 N, .slice A n c, .int .u8 3]) S H rfl rfl (fun w => bx) rfl rfl rfl ?_; clear S a H; intro g1 w a H S
 refine l_alloc (cs := #[.int .i64 0, .string ⟨#[]⟩, .int .i64 0, .int .u64 0, .float .f64 0, .bool false]) S H rfl (fun w => al zv25) rfl rfl rfl ?_; clear S a H; intro g2 w a H S
 refine l_nil ?_
 refine e_then ?_
 refine wp_seq ?_
 refine wp_seq ?_
 refine c_region ?_
 refine l_mv 1 S rfl ?_; clear S a; intro a S
 refine l_nil ?_
 refine e_then ?_
 refine wp_block ?_
 refine wp_seq ?_
 refine c_region ?_
 refine l_pure S (p_eql rfl rfl) rfl rfl rfl ?_; clear S a; intro a S
 refine l_mv 1 S rfl ?_; clear S a; intro a S
 refine l_nil ?_
 refine e_then ?_
 refine c_cond (b := false) S rfl (fun h => by cases h) (fun _ => ?_)
 refine wp_seq ?_
 refine c_region ?_
 refine l_pure S (p_eql rfl rfl) rfl rfl rfl ?_; clear S a; intro a S
 refine l_mv 1 S rfl ?_; clear S a; intro a S
 refine l_nil ?_
 refine e_then ?_
 refine c_cond (b := false) S rfl (fun h => by cases h) (fun _ => ?_)
 refine wp_seq ?_
 refine c_region ?_
 refine l_pure S (p_eql rfl rfl) rfl rfl rfl ?_; clear S a; intro a S
 refine l_mv 1 S rfl ?_; clear S a; intro a S
 refine l_nil ?_
 refine e_then ?_
 refine c_cond (b := true) S rfl (fun _ => ?_) (fun h => by cases h)
 refine wp_seq ?_
 refine c_region ?_
 refine l_read S H (r_loadn (m := 3) (vs := [.int .u64 N, .slice A n c, .int .u8 3]) rfl (List.mem_cons_of_mem _ List.mem_cons_self) ag33 sz33 rfl rfl) rfl rfl rfl ?_; clear S a; intro a S
 have hcon := acc3_ wb _ B _ N A n c H
 refine l_call S rfl rfl Tryz.func32 rfl rfl (hcon) rfl rfl rfl ?_
 rintro e w ⟨rfl, hH⟩
 refine ⟨_, rfl, ?_⟩; clear S a; intro a S
 clear H hcon; have H := hH; clear hH
 refine l_pure S (p_bld (ps := [(0, .const (.int .i64 3)), (3, .tmp 19)]) rfl (bld25_0_3 _ _)) rfl rfl rfl ?_; clear S a; intro a S
 refine l_storeAll (vs := [.int .i64 3, .string ⟨#[]⟩, .int .i64 0, .int .u64 N, .float .f64 0, .bool false]) S H rfl rfl rfl sz25 .here rfl (fun v hv => by simp only [List.mem_cons, List.not_mem_nil, or_false] at hv; rcases hv with rfl | rfl | rfl | rfl | rfl | rfl <;> rfl) rfl rfl ?_; clear S a H; intro w a H S
 refine l_nil ?_
 refine e_then ?_
 refine wp_ret ?_
 refine e_in_ret ?_
 refine e_then_ret ?_
 exact r_retc1 S rfl rfl (lva (cs := [.int .i64 3, .string ⟨#[]⟩, .int .i64 0, .int .u64 N, .float .f64 0, .bool false]) ag25 sz25 rfl H List.mem_cons_self) ⟨rfl, H.tail.tail⟩
theorem plain3_ (wb w0 : World) (B : Nat) (L0 : List (Nat × Obj)) (N : Int) (A : Option Addr) (n c : Nat) (H : HH B wb w0 L0) : Calls Tryz.prog 10 #[.agg #[.int .u64 N, .slice A n c, .int .u8 3]] w0 fun e w' => e = .returned (.agg #[.int .i64 3, .string ⟨#[]⟩, .int .i64 0, .int .u64 N, .float .f64 0, .bool false]) ∧ HH B wb w' L0 := by
 refine c_enter (args := [.agg #[.int .u64 N, .slice A n c, .int .u8 3]]) (k := 7) Tryz.func10 rfl rfl rfl (fun a S => ?_)
 refine wp_seq ?_
 refine c_region ?_
 refine l_box (cs := #[.int .u64 N, .slice A n c, .int .u8 3]) S H rfl rfl (fun w => bx) rfl rfl rfl ?_; clear S a H; intro g1 w a H S
 refine l_alloc (cs := #[.int .i64 0, .string ⟨#[]⟩, .int .i64 0, .int .u64 0, .float .f64 0, .bool false]) S H rfl (fun w => al zv25) rfl rfl rfl ?_; clear S a H; intro g2 w a H S
 refine l_nil ?_
 refine e_then ?_
 refine wp_seq ?_
 refine d_start (id := 1) [5] 6 #[false, false, false, false, false, false] H rfl rfl rfl (fun w H => ?_)
 refine d_read (i := 0) #[true, false, false, false, false, false] S H rfl (r_loadn (m := 3) (vs := [.int .u64 N, .slice A n c, .int .u8 3]) rfl (List.mem_cons_of_mem _ List.mem_cons_self) ag33 sz33 rfl rfl) (wanted_none rfl) rfl rfl (by kernel_rfl) (fun _ _ _ h => h) ?_; clear S a; intro a S
 refine d_read (i := 1) #[true, true, false, false, false, false] S H rfl (r_loadn (m := 3) (vs := [.int .u64 N, .slice A n c, .int .u8 3]) rfl (List.mem_cons_of_mem _ List.mem_cons_self) ag33 sz33 rfl rfl) (wanted_none rfl) rfl rfl (by kernel_rfl) (fun _ _ _ h => h) ?_; clear S a; intro a S
 have hcon := kind3_ wb _ B _ N A n c H
 refine d_call (i := 2) #[true, true, true, false, false, false] S rfl rfl rfl Tryz.func17 rfl rfl hcon (wanted_none rfl) rfl rfl (by kernel_rfl) rfl ?_
 rintro e w ⟨rfl, hH⟩; refine ⟨_, rfl, hH, ?_⟩; clear hcon H; have H := hH; clear hH; clear S a; intro a S
 refine d_pure (i := 3) #[true, true, true, true, false, false] S rfl (p_conv rfl (fun w => cv_int (Tryz.underlying31) (Tryz.underlying3) (r := 3) (by decide))) (wanted_none rfl) rfl rfl (by kernel_rfl) (fun _ _ _ h => h) ?_; clear S a; intro a S
 have hcon := accd3_ wb _ B _ N A n c H
 refine d_call (i := 4) #[true, true, true, true, true, false] S rfl rfl rfl Tryz.func16 rfl rfl hcon (wanted_none rfl) rfl rfl (by kernel_rfl) rfl ?_
 rintro e w ⟨rfl, hH⟩; refine ⟨_, rfl, hH, ?_⟩; clear hcon H; have H := hH; clear hH; clear S a; intro a S
 refine d_storeAll (i := 5) (vs := [.int .i64 3, .string ⟨#[]⟩, .int .i64 0, .int .u64 N, .float .f64 0, .bool false]) #[true, true, true, true, true, true] S H rfl rfl rfl rfl sz25 .here rfl (fun v hv => by simp only [List.mem_cons, List.not_mem_nil, or_false] at hv; rcases hv with rfl | rfl | rfl | rfl | rfl | rfl <;> rfl) (wanted_none rfl) rfl (by kernel_rfl) rfl ?_; clear S a H; intro w a H S
 refine d_done (by kernel_rfl) ?_
 refine e_then ?_
 refine wp_ret ?_
 exact r_retc1 S rfl rfl (lva (cs := [.int .i64 3, .string ⟨#[]⟩, .int .i64 0, .int .u64 N, .float .f64 0, .bool false]) ag25 sz25 rfl H List.mem_cons_self) ⟨rfl, H.tail.tail⟩
theorem kind4_ (wb w0 : World) (B : Nat) (L0 : List (Nat × Obj)) (N : Int) (A : Option Addr) (n c : Nat) (H : HH B wb w0 L0) : Calls Tryz.prog 17 #[.agg #[.int .u64 N, .slice A n c, .int .u8 4]] w0 fun e w' => e = .returned (.int .u8 4) ∧ HH B wb w' L0 := by
 refine c_enter (args := [.agg #[.int .u64 N, .slice A n c, .int .u8 4]]) (k := 7) Tryz.func17 rfl rfl rfl (fun a S => ?_)
 refine wp_seq ?_
 refine c_region ?_
 refine l_box (cs := #[.int .u64 N, .slice A n c, .int .u8 4]) S H rfl rfl (fun w => bx) rfl rfl rfl ?_; clear S a H; intro g1 w a H S
 refine l_mv 1 S rfl ?_; clear S a; intro a S
 refine l_nil ?_
 refine e_then ?_
 refine wp_seq ?_
 refine wp_seq ?_
 refine c_region ?_
 refine l_pure S (p_fieldAddr rfl (fun w => fa33_2 w _ _)) rfl rfl rfl ?_; clear S a; intro a S
 refine l_read S H (r_load rfl List.mem_cons_self rfl (fun w hc => ld1 ag31 hc)) rfl rfl rfl ?_; clear S a; intro a S
 refine l_pure S (p_eql rfl rfl) rfl rfl rfl ?_; clear S a; intro a S
 refine l_nil ?_
 refine e_then ?_
 refine c_cond (b := false) S rfl (fun h => by cases h) (fun _ => ?_)
 refine wp_skip ?_
 refine e_then ?_
 refine wp_seq ?_
 refine c_region ?_
 refine l_pure S (p_fieldAddr rfl (fun w => fa33_2 w _ _)) rfl rfl rfl ?_; clear S a; intro a S
 refine l_read S H (r_load rfl List.mem_cons_self rfl (fun w hc => ld1 ag31 hc)) rfl rfl rfl ?_; clear S a; intro a S
 refine l_mv 1 S rfl ?_; clear S a; intro a S
 refine l_nil ?_
 refine e_then ?_
 refine wp_ret ?_
 exact r_ret1 S rfl rfl ⟨rfl, H.tail⟩
theorem must4_ (wb w0 : World) (B : Nat) (L0 : List (Nat × Obj)) (N : Int) (A : Option Addr) (n c : Nat) (H : HH B wb w0 L0) : Calls Tryz.prog 44 #[.agg #[.int .u64 N, .slice A n c, .int .u8 4], .int .u8 4] w0 fun e w' => e = .returned (.tuple #[]) ∧ HH B wb w' L0 := by
 refine c_enter (args := [.agg #[.int .u64 N, .slice A n c, .int .u8 4], .int .u8 4]) (k := 7) Tryz.func44 rfl rfl rfl (fun a S => ?_)
 refine wp_seq ?_
 refine c_region ?_
 refine l_box (cs := #[.int .u64 N, .slice A n c, .int .u8 4]) S H rfl rfl (fun w => bx) rfl rfl rfl ?_; clear S a H; intro g1 w a H S
 refine l_nil ?_
 refine e_then ?_
 refine wp_seq ?_
 refine c_region ?_
 refine l_read S H (r_loadn (m := 3) (vs := [.int .u64 N, .slice A n c, .int .u8 4]) rfl List.mem_cons_self ag33 sz33 rfl rfl) rfl rfl rfl ?_; clear S a; intro a S
 have hcon := kind4_ wb _ B _ N A n c H
 refine l_call S rfl rfl Tryz.func17 rfl rfl (hcon) rfl rfl rfl ?_
 rintro e w ⟨rfl, hH⟩
 refine ⟨_, rfl, ?_⟩; clear S a; intro a S
 clear H hcon; have H := hH; clear hH
 refine l_mv 1 S rfl ?_; clear S a; intro a S
 refine l_pure S (p_neq rfl rfl) rfl rfl rfl ?_; clear S a; intro a S
 refine l_nil ?_
 refine e_then ?_
 refine c_cond (b := false) S rfl (fun h => by cases h) (fun _ => ?_)
 refine wp_skip ?_
 exact r_end0 S rfl ⟨rfl, H.tail⟩
theorem acc4_ (wb w0 : World) (B : Nat) (L0 : List (Nat × Obj)) (N : Int) (A : Option Addr) (n c : Nat) (H : HH B wb w0 L0) : Calls Tryz.prog 33 #[.agg #[.int .u64 N, .slice A n c, .int .u8 4]] w0 fun e w' => e = .returned (.float .f64 N.toNat) ∧ HH B wb w' L0 := by
 refine c_enter (args := [.agg #[.int .u64 N, .slice A n c, .int .u8 4]]) (k := 7) Tryz.func33 rfl rfl rfl (fun a S => ?_)
 refine wp_seq ?_
 refine c_region ?_
 refine l_box (cs := #[.int .u64 N, .slice A n c, .int .u8 4]) S H rfl rfl (fun w => bx) rfl rfl rfl ?_; clear S a H; intro g1 w a H S
 refine l_mv 1 S rfl ?_; clear S a; intro a S
 refine l_nil ?_
 refine e_then ?_
 refine wp_seq ?_
 refine c_region ?_
 refine l_read S H (r_loadn (m := 3) (vs := [.int .u64 N, .slice A n c, .int .u8 4]) rfl List.mem_cons_self ag33 sz33 rfl rfl) rfl rfl rfl ?_; clear S a; intro a S
 have hcon := must4_ wb _ B _ N A n c H
 refine l_call S rfl rfl Tryz.func44 rfl rfl (hcon) rfl rfl rfl ?_
 rintro e w ⟨rfl, hH⟩
 refine ⟨_, rfl, ?_⟩; clear S a; intro a S
 clear H hcon; have H := hH; clear hH
 refine l_nil ?_
 refine e_then ?_
 refine wp_seq ?_
 refine c_region ?_
 refine l_pure S (p_fieldAddr rfl (fun w => fa33_0 w _ _)) rfl rfl rfl ?_; clear S a; intro a S
 refine l_read S H (r_load rfl List.mem_cons_self rfl (fun w hc => ld1 ag22 hc)) rfl rfl rfl ?_; clear S a; intro a S
 refine l_pure S (p_ext rfl (fun w => from_run _ w)) rfl rfl rfl ?_; clear S a; intro a S
 refine l_mv 1 S rfl ?_; clear S a; intro a S
 refine l_nil ?_
 refine e_then ?_
 refine wp_ret ?_
 exact r_ret1 S rfl rfl ⟨rfl, H.tail⟩
theorem accd4_ (wb w0 : World) (B : Nat) (L0 : List (Nat × Obj)) (N : Int) (A : Option Addr) (n c : Nat) (H : HH B wb w0 L0) : Calls Tryz.prog 16 #[.agg #[.int .u64 N, .slice A n c, .int .u8 4], .int .i64 4] w0 fun e w' => e = .returned (.agg #[.int .i64 4, .string ⟨#[]⟩, .int .i64 0, .int .u64 0, .float .f64 N.toNat, .bool false]) ∧ HH B wb w' L0 := by
 refine c_enter (args := [.agg #[.int .u64 N, .slice A n c, .int .u8 4], .int .i64 4]) (k := 30) Tryz.func16 rfl rfl rfl (fun a S => ?_)
 refine wp_seq ?_
 refine c_region ?_
 refine l_box (cs := #[.int .u64 N, .slice A n c, .int .u8 4]) S H rfl rfl (fun w => bx) rfl rfl rfl ?_; clear S a H; intro g1 w a H S
 refine l_alloc (cs := #[.int .i64 0, .string ⟨#[]⟩, .int .i64 0, .int .u64 0, .float .f64 0, .bool false]) S H rfl (fun w => al zv25) rfl rfl rfl ?_; clear S a H; intro g2 w a H S
 refine l_nil ?_
 refine e_then ?_
 refine wp_seq ?_
 refine wp_seq ?_
 refine c_region ?_
 refine l_mv 1 S rfl ?_; clear S a; intro a S
 refine l_nil ?_
 refine e_then ?_
 refine wp_block ?_
 refine wp_seq ?_
 refine c_region ?_
 refine l_pure S (p_eql rfl rfl) rfl rfl rfl ?_; clear S a; intro a S
 refine l_mv 1 S rfl ?_; clear S a; intro a S
 refine l_nil ?_
 refine e_then ?_
 refine c_cond (b := false) S rfl (fun h => by cases h) (fun _ => ?_)
 refine wp_seq ?_
 refine c_region ?_
 refine l_pure S (p_eql rfl rfl) rfl rfl rfl ?_; clear S a; intro a S
 refine l_mv 1 S rfl ?_; clear S a; intro a S
 refine l_nil ?_
 refine e_then ?_
 refine c_cond (b := false) S rfl (fun h => by cases h) (fun _ => ?_)
 refine wp_seq ?_
 refine c_region ?_
 refine l_pure S (p_eql rfl rfl) rfl rfl rfl ?_; clear S a; intro a S
 refine l_mv 1 S rfl ?_; clear S a; intro a S
 refine l_nil ?_
 refine e_then ?_
 refine c_cond (b := false) S rfl (fun h => by cases h) (fun _ => ?_)
 refine wp_seq ?_
 refine c_region ?_
 refine l_pure S (p_eql rfl rfl) rfl rfl rfl ?_; clear S a; intro a S
 refine l_mv 1 S rfl ?_; clear S a; intro a S
 refine l_nil ?_
 refine e_then ?_
 refine c_cond (b := true) S rfl (fun _ => ?_) (fun h => by cases h)
 refine wp_seq ?_
 refine c_region ?_
 refine l_read S H (r_loadn (m := 3) (vs := [.int .u64 N, .slice A n c, .int .u8 4]) rfl (List.mem_cons_of_mem _ List.mem_cons_self) ag33 sz33 rfl rfl) rfl rfl rfl ?_; clear S a; intro a S
 have hcon := acc4_ wb _ B _ N A n c H
 refine l_call S rfl rfl Tryz.func33 rfl rfl (hcon) rfl rfl rfl ?_
 rintro e w ⟨rfl, hH⟩
 refine ⟨_, rfl, ?_⟩; clear S a; intro a S
 clear H hcon; have H := hH; clear hH
 refine l_pure S (p_bld (ps := [(0, .const (.int .i64 4)), (4, .tmp 24)]) rfl (bld25_0_4 _ _)) rfl rfl rfl ?_; clear S a; intro a S
 refine l_storeAll (vs := [.int .i64 4, .string ⟨#[]⟩, .int .i64 0, .int .u64 0, .float .f64 N.toNat, .bool false]) S H rfl rfl rfl sz25 .here rfl (fun v hv => by simp only [List.mem_cons, List.not_mem_nil, or_false] at hv; rcases hv with rfl | rfl | rfl | rfl | rfl | rfl <;> rfl) rfl rfl ?_; clear S a H; intro w a H S
 refine l_nil ?_
 refine e_then ?_
 refine wp_ret ?_
 refine e_in_ret ?_
 refine e_then_ret ?_
 exact r_retc1 S rfl rfl (lva (cs := [.int .i64 4, .string ⟨#[]⟩, .int .i64 0, .int .u64 0, .float .f64 N.toNat, .bool false]) ag25 sz25 rfl H List.mem_cons_self) ⟨rfl, H.tail.tail⟩
theorem plain4_ (wb w0 : World) (B : Nat) (L0 : List (Nat × Obj)) (N : Int) (A : Option Addr) (n c : Nat) (H : HH B wb w0 L0) : Calls Tryz.prog 10 #[.agg #[.int .u64 N, .slice A n c, .int .u8 4]] w0 fun e w' => e = .returned (.agg #[.int .i64 4, .string ⟨#[]⟩, .int .i64 0, .int .u64 0, .float .f64 N.toNat, .bool false]) ∧ HH B wb w' L0 := by
 refine c_enter (args := [.agg #[.int .u64 N, .slice A n c, .int .u8 4]]) (k := 7) Tryz.func10 rfl rfl rfl (fun a S => ?_)
 refine wp_seq ?_
 refine c_region ?_
 refine l_box (cs := #[.int .u64 N, .slice A n c, .int .u8 4]) S H rfl rfl (fun w => bx) rfl rfl rfl ?_; clear S a H; intro g1 w a H S
 refine l_alloc (cs := #[.int .i64 0, .string ⟨#[]⟩, .int .i64 0, .int .u64 0, .float .f64 0, .bool false]) S H rfl (fun w => al zv25) rfl rfl rfl ?_; clear S a H; intro g2 w a H S
 refine l_nil ?_
 refine e_then ?_
 refine wp_seq ?_
 refine d_start (id := 1) [5] 6 #[false, false, false, false, false, false] H rfl rfl rfl (fun w H => ?_)
 refine d_read (i := 0) #[true, false, false, false, false, false] S H rfl (r_loadn (m := 3) (vs := [.int .u64 N, .slice A n c, .int .u8 4]) rfl (List.mem_cons_of_mem _ List.mem_cons_self) ag33 sz33 rfl rfl) (wanted_none rfl) rfl rfl (by kernel_rfl) (fun _ _ _ h => h) ?_; clear S a; intro a S
 refine d_read (i := 1) #[true, true, false, false, false, false] S H rfl (r_loadn (m := 3) (vs := [.int .u64 N, .slice A n c, .int .u8 4]) rfl (List.mem_cons_of_mem _ List.mem_cons_self) ag33 sz33 rfl rfl) (wanted_none rfl) rfl rfl (by kernel_rfl) (fun _ _ _ h => h) ?_; clear S a; intro a S
 have hcon := kind4_ wb _ B _ N A n c H
 refine d_call (i := 2) #[true, true, true, false, false, false] S rfl rfl rfl Tryz.func17 rfl rfl hcon (wanted_none rfl) rfl rfl (by kernel_rfl) rfl ?_
 rintro e w ⟨rfl, hH⟩; refine ⟨_, rfl, hH, ?_⟩; clear hcon H; have H := hH; clear hH; clear S a; intro a S
 refine d_pure (i := 3) #[true, true, true, true, false, false] S rfl (p_conv rfl (fun w => cv_int (Tryz.underlying31) (Tryz.underlying3) (r := 4) (by decide))) (wanted_none rfl) rfl rfl (by kernel_rfl) (fun _ _ _ h => h) ?_; clear S a; intro a S
 have hcon := accd4_ wb _ B _ N A n c H
 refine d_call (i := 4) #[true, true, true, true, true, false] S rfl rfl rfl Tryz.func16 rfl rfl hcon (wanted_none rfl) rfl rfl (by kernel_rfl) rfl ?_
 rintro e w ⟨rfl, hH⟩; refine ⟨_, rfl, hH, ?_⟩; clear hcon H; have H := hH; clear hH; clear S a; intro a S
 refine d_storeAll (i := 5) (vs := [.int .i64 4, .string ⟨#[]⟩, .int .i64 0, .int .u64 0, .float .f64 N.toNat, .bool false]) #[true, true, true, true, true, true] S H rfl rfl rfl rfl sz25 .here rfl (fun v hv => by simp only [List.mem_cons, List.not_mem_nil, or_false] at hv; rcases hv with rfl | rfl | rfl | rfl | rfl | rfl <;> rfl) (wanted_none rfl) rfl (by kernel_rfl) rfl ?_; clear S a H; intro w a H S
 refine d_done (by kernel_rfl) ?_
 refine e_then ?_
 refine wp_ret ?_
 exact r_retc1 S rfl rfl (lva (cs := [.int .i64 4, .string ⟨#[]⟩, .int .i64 0, .int .u64 0, .float .f64 N.toNat, .bool false]) ag25 sz25 rfl H List.mem_cons_self) ⟨rfl, H.tail.tail⟩
theorem kind5_ (wb w0 : World) (B : Nat) (L0 : List (Nat × Obj)) (N : Int) (A : Option Addr) (n c : Nat) (H : HH B wb w0 L0) : Calls Tryz.prog 17 #[.agg #[.int .u64 N, .slice A n c, .int .u8 5]] w0 fun e w' => e = .returned (.int .u8 5) ∧ HH B wb w' L0 := by
 refine c_enter (args := [.agg #[.int .u64 N, .slice A n c, .int .u8 5]]) (k := 7) Tryz.func17 rfl rfl rfl (fun a S => ?_)
 refine wp_seq ?_
 refine c_region ?_
 refine l_box (cs := #[.int .u64 N, .slice A n c, .int .u8 5]) S H rfl rfl (fun w => bx) rfl rfl rfl ?_; clear S a H; intro g1 w a H S
 refine l_mv 1 S rfl ?_; clear S a; intro a S
 refine l_nil ?_
 refine e_then ?_
 refine wp_seq ?_
 refine wp_seq ?_
 refine c_region ?_
 refine l_pure S (p_fieldAddr rfl (fun w => fa33_2 w _ _)) rfl rfl rfl ?_; clear S a; intro a S
 refine l_read S H (r_load rfl List.mem_cons_self rfl (fun w hc => ld1 ag31 hc)) rfl rfl rfl ?_; clear S a; intro a S
 refine l_pure S (p_eql rfl rfl) rfl rfl rfl ?_; clear S a; intro a S
 refine l_nil ?_
 refine e_then ?_
 refine c_cond (b := false) S rfl (fun h => by cases h) (fun _ => ?_)
 refine wp_skip ?_
 refine e_then ?_
 refine wp_seq ?_
 refine c_region ?_
 refine l_pure S (p_fieldAddr rfl (fun w => fa33_2 w _ _)) rfl rfl rfl ?_; clear S a; intro a S
 refine l_read S H (r_load rfl List.mem_cons_self rfl (fun w hc => ld1 ag31 hc)) rfl rfl rfl ?_; clear S a; intro a S
 refine l_mv 1 S rfl ?_; clear S a; intro a S
 refine l_nil ?_
 refine e_then ?_
 refine wp_ret ?_
 exact r_ret1 S rfl rfl ⟨rfl, H.tail⟩
theorem must5_ (wb w0 : World) (B : Nat) (L0 : List (Nat × Obj)) (N : Int) (A : Option Addr) (n c : Nat) (H : HH B wb w0 L0) : Calls Tryz.prog 44 #[.agg #[.int .u64 N, .slice A n c, .int .u8 5], .int .u8 5] w0 fun e w' => e = .returned (.tuple #[]) ∧ HH B wb w' L0 := by
 refine c_enter (args := [.agg #[.int .u64 N, .slice A n c, .int .u8 5], .int .u8 5]) (k := 7) Tryz.func44 rfl rfl rfl (fun a S => ?_)
 refine wp_seq ?_
 refine c_region ?_
 refine l_box (cs := #[.int .u64 N, .slice A n c, .int .u8 5]) S H rfl rfl (fun w => bx) rfl rfl rfl ?_; clear S a H; intro g1 w a H S
 refine l_nil ?_
 refine e_then ?_
 refine wp_seq ?_
 refine c_region ?_
 refine l_read S H (r_loadn (m := 3) (vs := [.int .u64 N, .slice A n c, .int .u8 5]) rfl List.mem_cons_self ag33 sz33 rfl rfl) rfl rfl rfl ?_; clear S a; intro a S
 have hcon := kind5_ wb _ B _ N A n c H
 refine l_call S rfl rfl Tryz.func17 rfl rfl (hcon) rfl rfl rfl ?_
 rintro e w ⟨rfl, hH⟩
 refine ⟨_, rfl, ?_⟩; clear S a; intro a S
 clear H hcon; have H := hH; clear hH
 refine l_mv 1 S rfl ?_; clear S a; intro a S
 refine l_pure S (p_neq rfl rfl) rfl rfl rfl ?_; clear S a; intro a S
 refine l_nil ?_
 refine e_then ?_
 refine c_cond (b := false) S rfl (fun h => by cases h) (fun _ => ?_)
 refine wp_skip ?_
 exact r_end0 S rfl ⟨rfl, H.tail⟩
theorem acc5_ (wb w0 : World) (B : Nat) (L0 : List (Nat × Obj)) (N : Int) (A : Option Addr) (n c : Nat) (H : HH B wb w0 L0) : Calls Tryz.prog 34 #[.agg #[.int .u64 N, .slice A n c, .int .u8 5]] w0 fun e w' => e = .returned (.bool (N != 0)) ∧ HH B wb w' L0 := by
 refine c_enter (args := [.agg #[.int .u64 N, .slice A n c, .int .u8 5]]) (k := 7) Tryz.func34 rfl rfl rfl (fun a S => ?_)
 refine wp_seq ?_
 refine c_region ?_
 refine l_box (cs := #[.int .u64 N, .slice A n c, .int .u8 5]) S H rfl rfl (fun w => bx) rfl rfl rfl ?_; clear S a H; intro g1 w a H S
 refine l_mv 1 S rfl ?_; clear S a; intro a S
 refine l_nil ?_
 refine e_then ?_
 refine wp_seq ?_
 refine c_region ?_
 refine l_read S H (r_loadn (m := 3) (vs := [.int .u64 N, .slice A n c, .int .u8 5]) rfl List.mem_cons_self ag33 sz33 rfl rfl) rfl rfl rfl ?_; clear S a; intro a S
 have hcon := must5_ wb _ B _ N A n c H
 refine l_call S rfl rfl Tryz.func44 rfl rfl (hcon) rfl rfl rfl ?_
 rintro e w ⟨rfl, hH⟩
 refine ⟨_, rfl, ?_⟩; clear S a; intro a S
 clear H hcon; have H := hH; clear hH
 refine l_nil ?_
 refine e_then ?_
 refine wp_seq ?_
 refine c_region ?_
 refine l_pure S (p_fieldAddr rfl (fun w => fa33_0 w _ _)) rfl rfl rfl ?_; clear S a; intro a S
 refine l_read S H (r_load rfl List.mem_cons_self rfl (fun w hc => ld1 ag22 hc)) rfl rfl rfl ?_; clear S a; intro a S
 refine l_pure S (p_neq rfl rfl) rfl rfl rfl ?_; clear S a; intro a S
 refine l_mv 1 S rfl ?_; clear S a; intro a S
 refine l_nil ?_
 refine e_then ?_
 refine wp_ret ?_
 exact r_ret1 S rfl rfl ⟨rfl, H.tail⟩
theorem accd5_ (wb w0 : World) (B : Nat) (L0 : List (Nat × Obj)) (N : Int) (A : Option Addr) (n c : Nat) (H : HH B wb w0 L0) : Calls Tryz.prog 16 #[.agg #[.int .u64 N, .slice A n c, .int .u8 5], .int .i64 5] w0 fun e w' => e = .returned (.agg #[.int .i64 5, .string ⟨#[]⟩, .int .i64 0, .int .u64 0, .float .f64 0, .bool (N != 0)]) ∧ HH B wb w' L0 := by
 refine c_enter (args := [.agg #[.int .u64 N, .slice A n c, .int .u8 5], .int .i64 5]) (k := 30) Tryz.func16 rfl rfl rfl (fun a S => ?_)
 refine wp_seq ?_
 refine c_region ?_
 refine l_box (cs := #[.int .u64 N, .slice A n c, .int .u8 5]) S H rfl rfl (fun w => bx) rfl rfl rfl ?_; clear S a H; intro g1 w a H S
 refine l_alloc (cs := #[.int .i64 0, .string ⟨#[]⟩, .int .i64 0, .int .u64 0, .float .f64 0, .bool false]) S H rfl (fun w => al zv25) rfl rfl rfl ?_; clear S a H; intro g2 w a H S
 refine l_nil ?_
 refine e_then ?_
 refine wp_seq ?_
 refine wp_seq ?_
 refine c_region ?_
 refine l_mv 1 S rfl ?_; clear S a; intro a S
 refine l_nil ?_
 refine e_then ?_
 refine wp_block ?_
 refine wp_seq ?_
 refine c_region ?_
 refine l_pure S (p_eql rfl rfl) rfl rfl rfl ?_; clear S a; intro a S
 refine l_mv 1 S rfl ?_; clear S a; intro a S
 refine l_nil ?_
 refine e_then ?_
 refine c_cond (b := false) S rfl (fun h => by cases h) (fun _ => ?_)
 refine wp_seq ?_
 refine c_region ?_
 refine l_pure S (p_eql rfl rfl) rfl rfl rfl ?_; clear S a; intro a S
 refine l_mv 1 S rfl ?_; clear S a; intro a S
 refine l_nil ?_
 refine e_then ?_
 refine c_cond (b := false) S rfl (fun h => by cases h) (fun _ => ?_)
 refine wp_seq ?_
 refine c_region ?_
 refine l_pure S (p_eql rfl rfl) rfl rfl rfl ?_; clear S a; intro a S
 refine l_mv 1 S rfl ?_; clear S a; intro a S
 refine l_nil ?_
 refine e_then ?_
 refine c_cond (b := false) S rfl (fun h => by cases h) (fun _ => ?_)
 refine wp_seq ?_
 refine c_region ?_
 refine l_pure S (p_eql rfl rfl) rfl rfl rfl ?_; clear S a; intro a S
 refine l_mv 1 S rfl ?_; clear S a; intro a S
 refine l_nil ?_
 refine e_then ?_
 refine c_cond (b := false) S rfl (fun h => by cases h) (fun _ => ?_)
 refine wp_seq ?_
 refine c_region ?_
 refine l_pure S (p_eql rfl rfl) rfl rfl rfl ?_; clear S a; intro a S
 refine l_mv 1 S rfl ?_; clear S a; intro a S
 refine l_nil ?_
 refine e_then ?_
 refine c_cond (b := true) S rfl (fun _ => ?_) (fun h => by cases h)
 refine wp_seq ?_
 refine c_region ?_
 refine l_read S H (r_loadn (m := 3) (vs := [.int .u64 N, .slice A n c, .int .u8 5]) rfl (List.mem_cons_of_mem _ List.mem_cons_self) ag33 sz33 rfl rfl) rfl rfl rfl ?_; clear S a; intro a S
 have hcon := acc5_ wb _ B _ N A n c H
 refine l_call S rfl rfl Tryz.func34 rfl rfl (hcon) rfl rfl rfl ?_
 rintro e w ⟨rfl, hH⟩
 refine ⟨_, rfl, ?_⟩; clear S a; intro a S
 clear H hcon; have H := hH; clear hH
 refine l_pure S (p_bld (ps := [(0, .const (.int .i64 5)), (5, .tmp 29)]) rfl (bld25_0_5 _ _)) rfl rfl rfl ?_; clear S a; intro a S
 refine l_storeAll (vs := [.int .i64 5, .string ⟨#[]⟩, .int .i64 0, .int .u64 0, .float .f64 0, .bool (N != 0)]) S H rfl rfl rfl sz25 .here rfl (fun v hv => by simp only [List.mem_cons, List.not_mem_nil, or_false] at hv; rcases hv with rfl | rfl | rfl | rfl | rfl | rfl <;> rfl) rfl rfl ?_; clear S a H; intro w a H S
 refine l_nil ?_
 refine e_then ?_
 refine wp_ret ?_
 refine e_in_ret ?_
 refine e_then_ret ?_
 exact r_retc1 S rfl rfl (lva (cs := [.int .i64 5, .string ⟨#[]⟩, .int .i64 0, .int .u64 0, .float .f64 0, .bool (N != 0)]) ag25 sz25 rfl H List.mem_cons_self) ⟨rfl, H.tail.tail⟩
theorem plain5_ (wb w0 : World) (B : Nat) (L0 : List (Nat × Obj)) (N : Int) (A : Option Addr) (n c : Nat) (H : HH B wb w0 L0) : Calls Tryz.prog 10 #[.agg #[.int .u64 N, .slice A n c, .int .u8 5]] w0 fun e w' => e = .returned (.agg #[.int .i64 5, .string ⟨#[]⟩, .int .i64 0, .int .u64 0, .float .f64 0, .bool (N != 0)]) ∧ HH B wb w' L0 := by
 refine c_enter (args := [.agg #[.int .u64 N, .slice A n c, .int .u8 5]]) (k := 7) Tryz.func10 rfl rfl rfl (fun a S => ?_)
 refine wp_seq ?_
 refine c_region ?_
 refine l_box (cs := #[.int .u64 N, .slice A n c, .int .u8 5]) S H rfl rfl (fun w => bx) rfl rfl rfl ?_; clear S a H; intro g1 w a H S
 refine l_alloc (cs := #[.int .i64 0, .string ⟨#[]⟩, .int .i64 0, .int .u64 0, .float .f64 0, .bool false]) S H rfl (fun w => al zv25) rfl rfl rfl ?_; clear S a H; intro g2 w a H S
 refine l_nil ?_
 refine e_then ?_
 refine wp_seq ?_
 refine d_start (id := 1) [5] 6 #[false, false, false, false, false, false] H rfl rfl rfl (fun w H => ?_)
 refine d_read (i := 0) #[true, false, false, false, false, false] S H rfl (r_loadn (m := 3) (vs := [.int .u64 N, .slice A n c, .int .u8 5]) rfl (List.mem_cons_of_mem _ List.mem_cons_self) ag33 sz33 rfl rfl) (wanted_none rfl) rfl rfl (by kernel_rfl) (fun _ _ _ h => h) ?_; clear S a; intro a S
 refine d_read (i := 1) #[true, true, false, false, false, false] S H rfl (r_loadn (m := 3) (vs := [.int .u64 N, .slice A n c, .int .u8 5]) rfl (List.mem_cons_of_mem _ List.mem_cons_self) ag33 sz33 rfl rfl) (wanted_none rfl) rfl rfl (by kernel_rfl) (fun _ _ _ h => h) ?_; clear S a; intro a S
 have hcon := kind5_ wb _ B _ N A n c H
 refine d_call (i := 2) #[true, true, true, false, false, false] S rfl rfl rfl Tryz.func17 rfl rfl hcon (wanted_none rfl) rfl rfl (by kernel_rfl) rfl ?_
 rintro e w ⟨rfl, hH⟩; refine ⟨_, rfl, hH, ?_⟩; clear hcon H; have H := hH; clear hH; clear S a; intro a S
 refine d_pure (i := 3) #[true, true, true, true, false, false] S rfl (p_conv rfl (fun w => cv_int (Tryz.underlying31) (Tryz.underlying3) (r := 5) (by decide))) (wanted_none rfl) rfl rfl (by kernel_rfl) (fun _ _ _ h => h) ?_; clear S a; intro a S
 have hcon := accd5_ wb _ B _ N A n c H
 refine d_call (i := 4) #[true, true, true, true, true, false] S rfl rfl rfl Tryz.func16 rfl rfl hcon (wanted_none rfl) rfl rfl (by kernel_rfl) rfl ?_
 rintro e w ⟨rfl, hH⟩; refine ⟨_, rfl, hH, ?_⟩; clear hcon H; have H := hH; clear hH; clear S a; intro a S
 refine d_storeAll (i := 5) (vs := [.int .i64 5, .string ⟨#[]⟩, .int .i64 0, .int .u64 0, .float .f64 0, .bool (N != 0)]) #[true, true, true, true, true, true] S H rfl rfl rfl rfl sz25 .here rfl (fun v hv => by simp only [List.mem_cons, List.not_mem_nil, or_false] at hv; rcases hv with rfl | rfl | rfl | rfl | rfl | rfl <;> rfl) (wanted_none rfl) rfl (by kernel_rfl) rfl ?_; clear S a H; intro w a H S
 refine d_done (by kernel_rfl) ?_
 refine e_then ?_
 refine wp_ret ?_
 exact r_retc1 S rfl rfl (lva (cs := [.int .i64 5, .string ⟨#[]⟩, .int .i64 0, .int .u64 0, .float .f64 0, .bool (N != 0)]) ag25 sz25 rfl H List.mem_cons_self) ⟨rfl, H.tail.tail⟩
end vl
end Go.Proofs.YtneoieigaakoaaaGreatDoor.pf
end
section
namespace Go.Proofs.YtneoieigaakoaaaGreatDoor.pf
open Go.Proofs.YtneoieigaakoaaaGreatDoor.fx
open Go.RowKit Go.Proofs.HHW Go.Proofs.YtneoieigaakoaaaGreatDoorW.PrintWords
namespace wn
def pi64 (s : ByteArray) : Int × Option Int := match Lib.parseIntB 64 s.data.toList with
 | .ok v => (v, none)
 | .range => (Lib.intSat 64 s.data.toList, some 1)
 | _ => (0, some 2)
def pu64 (s : ByteArray) : Int × Option Int := match Lib.parseUintB 64 s.data.toList with
 | .ok v => ((v : Nat), none)
 | .range => (18446744073709551615, some 1)
 | _ => (0, some 2)
theorem pint_ (wb w0 : World) (B : Nat) (L0 : List (Nat × Obj)) (sv rv : Value) (hV : er.EV 6 1 B wb sv rv) (s : ByteArray) (hs : s.size ≤ 1000000) (H : HH B wb w0 L0) : Calls Tryz.prog 40 #[.string s, .int .i64 10, .int .i64 64] w0 fun e w' => ∃ v L1, e = .returned (.tuple #[.int .i64 (pi64 s).1, v]) ∧ HH B wb w' (L1 ++ L0) ∧ er.NumE (⟨#[80, 97, 114, 115, 101, 73, 110, 116]⟩ : ByteArray) s sv rv (pi64 s).2 v L1 := by
 unfold pi64
 rcases h : Lib.parseIntB 64 s.data.toList with v | _ | _
 ·
  exact Calls.mono (Any.strconv_ParseInt_10_at64_ok Tryz.llC174 s (by omega) v h w0) (by
   rintro e w' ⟨rfl, hw⟩
   refine ⟨_, [], rfl, ?_, rfl, rfl⟩
   rcases hw with rfl | ⟨t, rfl⟩
   ·
    exact H
   ·
    exact H.later (Lib.bytesWorld_below _ _ _))
 ·
  exact Calls.mono (Any.strconv_ParseInt_10_at64_syntax Tryz.llC174 s (by omega) h sv w0 ((H.below.cell (p := ⟨_, 0, none⟩) hV.s.2).trans hV.s.1) (Or.inr hV.sv)) (by rintro e w' ⟨n, rfl, h1, h2, h3⟩; exact ⟨_, [_], rfl, H.more h3 h1 h2, n, rfl, rfl⟩)
 ·
  exact Calls.mono (Any.strconv_ParseInt_10_at64_range Tryz.llC174 s (by omega) h rv w0 ((H.below.cell (p := ⟨_, 0, none⟩) hV.r.2).trans hV.r.1) (Or.inr hV.rv)) (by rintro e w' ⟨n, rfl, h1, h2, h3⟩; exact ⟨_, [_], rfl, H.more h3 h1 h2, n, rfl, rfl⟩)
theorem puint_ (wb w0 : World) (B : Nat) (L0 : List (Nat × Obj)) (sv rv : Value) (hV : er.EV 6 1 B wb sv rv) (s : ByteArray) (hs : s.size ≤ 1000000) (H : HH B wb w0 L0) : Calls Tryz.prog 41 #[.string s, .int .i64 10, .int .i64 64] w0 fun e w' => ∃ v L1, e = .returned (.tuple #[.int .u64 (pu64 s).1, v]) ∧ HH B wb w' (L1 ++ L0) ∧ er.NumE (⟨#[80, 97, 114, 115, 101, 85, 105, 110, 116]⟩ : ByteArray) s sv rv (pu64 s).2 v L1 := by
 unfold pu64
 rcases h : Lib.parseUintB 64 s.data.toList with v | _ | _
 ·
  exact Calls.mono (Any.strconv_ParseUint_10_at64_ok Tryz.llP14 s (by omega) v h w0) (by
   rintro e w' ⟨rfl, hw⟩
   refine ⟨_, [], rfl, ?_, rfl, rfl⟩
   rcases hw with rfl | rfl
   ·
    exact H
   ·
    exact H.later (Lib.bytesWorld_below _ _ _))
 ·
  exact Calls.mono (Any.strconv_ParseUint_10_at64_syntax Tryz.llP14 s (by omega) h sv w0 ((H.below.cell (p := ⟨_, 0, none⟩) hV.s.2).trans hV.s.1) (Or.inr hV.sv)) (by rintro e w' ⟨n, rfl, h1, h2, h3⟩; exact ⟨_, [_], rfl, H.more h3 h1 h2, n, rfl, rfl⟩)
 ·
  exact Calls.mono (Any.strconv_ParseUint_10_at64_range Tryz.llP14 s (by omega) h rv w0 ((H.below.cell (p := ⟨_, 0, none⟩) hV.r.2).trans hV.r.1) (Or.inr hV.rv)) (by rintro e w' ⟨n, rfl, h1, h2, h3⟩; exact ⟨_, [_], rfl, H.more h3 h1 h2, n, rfl, rfl⟩)
end wn
end Go.Proofs.YtneoieigaakoaaaGreatDoor.pf
end
section
namespace Go.Proofs.YtneoieigaakoaaaGreatDoor.pf
open Go.Proofs.YtneoieigaakoaaaGreatDoor.fx
open Go.RowKit Go.Proofs.HHW Go.Proofs.YtneoieigaakoaaaGreatDoorW.PrintWords
theorem toList_nil {s : ByteArray} (h : (s.toList == (⟨#[]⟩ : ByteArray).toList) = false) : 1 ≤ s.size := by
 rcases Nat.eq_zero_or_pos s.size with q | q
 ·
  exfalso
  have e : s = ⟨#[]⟩ := by
   cases s with | mk d => exact congrArg ByteArray.mk (Array.eq_empty_of_size_eq_zero q)
  rw [e] at h
  simp at h
 ·
  exact q
theorem toList_ne {s : ByteArray} (h : (!(s.toList == (⟨#[]⟩ : ByteArray).toList)) = true) : 1 ≤ s.size := toList_nil (by simpa using h)
end Go.Proofs.YtneoieigaakoaaaGreatDoor.pf
end
section
namespace Go.Proofs.YtneoieigaakoaaaGreatDoor.pf
open Go.Proofs.YtneoieigaakoaaaGreatDoor.fx
open Go.RowKit Go.Proofs.HHW Go.Proofs.YtneoieigaakoaaaGreatDoorW.PrintWords
def PM (z : ByteArray) (u i : Int) : Lib.NumEnd Nat := Lib.parseUintM 18446744073709551615 u.toNat (z.data.toList.drop i.toNat)
def badN : Lib.NumEnd Nat := Lib.parseUintB 64 []
def badI : Lib.NumEnd Int := Lib.parseIntB 64 []
theorem pm_cons {z : ByteArray} {i : Int} (h0 : 0 ≤ i) (h : i < z.size) : ∃ c : UInt8, z.data.toList.drop i.toNat = c :: z.data.toList.drop (i + 1).toNat ∧ HHW.bt z i = (c.toNat : Int) := by
 have hi : i.toNat < z.size := by omega
 have hl : i.toNat < z.data.toList.length := by rw [Array.length_toList]; exact hi
 refine ⟨z.data.toList[i.toNat], ?_, ?_⟩
 ·
  rw [show (i + 1).toNat = i.toNat + 1 by omega]
  exact List.drop_eq_getElem_cons hl
 ·
  unfold HHW.bt
  rw [dif_pos hi]
  rfl
theorem pm_syn {z : ByteArray} {u i : Int} (h0 : 0 ≤ i) (h : i < z.size) (hc : HHW.bt z i < 48 ∨ HHW.bt z i > 57) : PM z u i = badN := by
 obtain ⟨c, e1, e2⟩ := pm_cons h0 h
 unfold PM
 rw [e1, Lib.parseUintM, if_neg (by omega)]
 rfl
theorem pm_rng {z : ByteArray} {u i : Int} (h0 : 0 ≤ i) (h : i < z.size) (hc : 48 ≤ HHW.bt z i ∧ HHW.bt z i ≤ 57) (hu : 0 ≤ u) (ho : u > (18446744073709551615 - (HHW.bt z i - 48)) / 10) : PM z u i = .range := by
 obtain ⟨c, e1, e2⟩ := pm_cons h0 h
 unfold PM
 rw [e1, Lib.parseUintM, if_pos (by omega)]
 split
 ·
  rfl
 ·
  rw [if_pos (by omega)]
theorem pm_nxt {z : ByteArray} {u i : Int} (h0 : 0 ≤ i) (h : i < z.size) (hc : 48 ≤ HHW.bt z i ∧ HHW.bt z i ≤ 57) (hu : 0 ≤ u) (ho : u ≤ (18446744073709551615 - (HHW.bt z i - 48)) / 10) : PM z u i = PM z (u * 10 + (HHW.bt z i - 48)) (i + 1) := by
 obtain ⟨c, e1, e2⟩ := pm_cons h0 h
 conv => lhs; unfold PM
 rw [e1, Lib.parseUintM, if_pos (by omega), if_neg (by omega), if_neg (by omega)]
 unfold PM
 congr 1
 omega
theorem pm_end {z : ByteArray} {u i : Int} (hu : 0 ≤ u) (h : (z.size : Int) ≤ i) : PM z u i = .ok u.toNat := by
 unfold PM
 rw [List.drop_eq_nil_of_le (by rw [Array.length_toList]; show z.size ≤ _; omega)]
 rfl
end Go.Proofs.YtneoieigaakoaaaGreatDoor.pf
end
section
namespace Go.Proofs.YtneoieigaakoaaaGreatDoor.pf
open Go.Proofs.YtneoieigaakoaaaGreatDoor.fx
open Go.RowKit Go.Proofs.HHW Go.Proofs.YtneoieigaakoaaaGreatDoorW.PrintWords
def Sgn (s : ByteArray) (sg : Bool) (z : ByteArray) (mi : Bool) : Prop :=
 (z = s ∧ mi = false ∧ (sg = false ∨ s.size = 0 ∨ (HHW.bt s 0 ≠ 43 ∧ HHW.bt s 0 ≠ 45))) ∨ (sg = true ∧ 1 ≤ s.size ∧ z = s.extract 1 s.size ∧ ((HHW.bt s 0 = 43 ∧ mi = false) ∨ (HHW.bt s 0 = 45 ∧ mi = true)))
def WAns (sg mi : Bool) (e : Lib.NumEnd Nat) : Int × Bool × Bool := match e with
 | .range => (0, false, true)
 | .ok u => if sg = false then (IntKind.i64.wrap u, true, false) else if mi = false ∧ u ≤ 9223372036854775807 then ((u : Nat), true, false) else if mi = true ∧ u ≤ 9223372036854775808 then (-((u : Nat) : Int), true, false) else (0, false, true)
 | _ => (0, false, false)
def WRes (s : ByteArray) (sg : Bool) (r : Int × Bool × Bool) : Prop := ∃ z mi, Sgn s sg z mi ∧ ((z.size = 0 ∧ r = (0, false, false)) ∨ (1 ≤ z.size ∧ r = WAns sg mi (PM z 0 0)))
theorem toList_e {s : ByteArray} (h : (!(s.toList == (⟨#[]⟩ : ByteArray).toList)) = false) : s.size = 0 := by
 have e : s.toList = (⟨#[]⟩ : ByteArray).toList := by simpa using h
 rcases Nat.eq_zero_or_pos s.size with q | q
 ·
  exact q
 ·
  exfalso
  simp [ByteArray.toList_eq] at e
  have : s.data.size = 0 := by rw [e]; rfl
  have : s.size = 0 := this
  omega
theorem toList_e2 {s : ByteArray} (h : (s.toList == (⟨#[]⟩ : ByteArray).toList) = true) : s.size = 0 := toList_e (by rw [h]; rfl)
section
variable {sg mi : Bool} {u : Int}
theorem wans1 (hu : 0 ≤ u) (h : sg = false) : (IntKind.i64.wrap u, true, false) = WAns sg mi (.ok u.toNat) := by
 simp only [WAns]
 rw [if_pos h, Int.toNat_of_nonneg hu]
theorem wans2 (hu : 0 ≤ u) (h : sg = true) (h1 : mi = false) (h2 : u ≤ 9223372036854775807) : (IntKind.i64.wrap u, true, false) = WAns sg mi (.ok u.toNat) := by
 simp only [WAns]
 rw [if_neg (by rw [h]; decide), if_pos ⟨h1, by omega⟩, Int.toNat_of_nonneg hu, IntWalk.i64_in _ (by omega)]
theorem wans3 (hu : 0 ≤ u) (h : sg = true) (h1 : mi = true) (h2 : u ≤ 9223372036854775808) : (IntKind.i64.wrap (0 - IntKind.i64.wrap u), true, false) = WAns sg mi (.ok u.toNat) := by
 simp only [WAns]
 rw [if_neg (by rw [h]; decide), if_neg (by rw [h1]; simp), if_pos ⟨h1, by omega⟩, Int.toNat_of_nonneg hu]
 congr 1
 by_cases q : u = 9223372036854775808
 ·
  subst q; decide
 ·
  rw [IntWalk.i64_in u (by omega), IntWalk.i64_in _ (by omega)]; omega
theorem wans4 (hu : 0 ≤ u) (h : sg = true) (h1 : mi = false → u > 9223372036854775807) (h2 : mi = true → u > 9223372036854775808) : ((0 : Int), false, true) = WAns sg mi (.ok u.toNat) := by
 simp only [WAns]
 rw [if_neg (by rw [h]; decide), if_neg (fun x => by have := h1 x.1; omega), if_neg (fun x => by have := h2 x.1; omega)]
end
end Go.Proofs.YtneoieigaakoaaaGreatDoor.pf
end
section
namespace Go.Proofs.YtneoieigaakoaaaGreatDoor.pf
open Go.Proofs.YtneoieigaakoaaaGreatDoor.fx
open Go.RowKit Go.Proofs.HHW Go.Proofs.YtneoieigaakoaaaGreatDoorW.PrintWords
theorem pub_pm {z : ByteArray} (h : 1 ≤ z.size) : Lib.parseUintB 64 z.data.toList = PM z 0 0 := by
 unfold Lib.parseUintB PM
 rw [if_neg (by intro e; have := congrArg List.length e; rw [Array.length_toList] at this; have h3 : z.size = 0 := this; omega)]
 rfl
theorem pub_nil {z : ByteArray} (h : z.size = 0) : Lib.parseUintB 64 z.data.toList = badN := by
 unfold Lib.parseUintB
 rw [if_pos (by apply List.eq_nil_of_length_eq_zero; rw [Array.length_toList]; exact h)]
 rfl
theorem lst_cons {s : ByteArray} (h : 1 ≤ s.size) : ∃ (c : UInt8) (r : List UInt8), s.data.toList = c :: r ∧ HHW.bt s 0 = (c.toNat : Int) ∧ (s.extract 1 s.size).data.toList = r := by
 obtain ⟨c, e1, e2⟩ := pm_cons (z := s) (i := 0) (by omega) (by omega)
 refine ⟨c, s.data.toList.drop 1, e1, e2, ?_⟩
 rw [ByteArray.data_extract, Array.toList_extract]
 show List.take (s.data.size - 1) (List.drop 1 s.data.toList) = _
 rw [List.take_of_length_le (by rw [List.length_drop, Array.length_toList]; exact Nat.le_refl _)]
theorem pint_of {s z : ByteArray} {mi : Bool} (h : Sgn s true z mi) : Lib.parseIntB 64 s.data.toList = match Lib.parseUintB 64 z.data.toList with
  | .range => .range
  | .ok u => if mi = false ∧ 9223372036854775808 ≤ u then .range else if mi = true ∧ 9223372036854775808 < u then .range else .ok (if mi = true then -(u : Int) else u)
  | _ => badI := by
 rcases Nat.eq_zero_or_pos s.size with q | q
 ·
  have ez : z = s := by
   rcases h with ⟨rfl, _⟩ | ⟨_, h1, _⟩
   ·
    rfl
   ·
    omega
  subst ez
  rw [pub_nil q, show z.data.toList = [] from by apply List.eq_nil_of_length_eq_zero; rw [Array.length_toList]; exact q]
  rfl
 ·
  obtain ⟨c, r, e1, e2, e3⟩ := lst_cons q
  have hm : (mi = true ↔ c.toNat = 45) ∧ (if c.toNat = 43 ∨ c.toNat = 45 then r else s.data.toList) = z.data.toList := by
   rcases h with ⟨rfl, rfl, h2⟩ | ⟨_, _, rfl, h2⟩
   ·
    have hc : ¬ (c.toNat = 43 ∨ c.toNat = 45) := by
     rcases h2 with h2 | h2 | h2
     ·
      cases h2
     ·
      omega
     ·
      omega
    refine ⟨⟨fun x => (by cases x), fun x => absurd (.inr x) hc⟩, if_neg hc⟩
   ·
    rcases h2 with ⟨h2, rfl⟩ | ⟨h2, rfl⟩
    ·
     refine ⟨⟨fun x => (by cases x), fun x => by omega⟩, ?_⟩
     rw [if_pos (by omega), e3]
    ·
     refine ⟨⟨fun _ => by omega, fun _ => rfl⟩, ?_⟩
     rw [if_pos (by omega), e3]
  obtain ⟨h1, h2⟩ := hm
  rw [← h2, e1]
  unfold Lib.parseIntB
  simp only
  rcases Lib.parseUintB 64 (if c.toNat = 43 ∨ c.toNat = 45 then r else c :: r) with u | _ | _
  ·
   simp only [show (2 : Nat) ^ (64 - 1) = 9223372036854775808 from rfl, ← h1]
   cases mi <;> simp
  ·
   rfl
  ·
   rfl
def fin3 (p : Int × Option Int) : Int × Bool × Bool := match p.2 with
 | none => (p.1, true, false)
 | some c => (0, false, c == 1)
theorem whl_pi {s : ByteArray} {r : Int × Bool × Bool} (h : WRes s true r) : r = fin3 (wn.pi64 s) := by
 obtain ⟨z, mi, hs, h⟩ := h
 have e := pint_of hs
 unfold wn.pi64
 rw [e]
 rcases h with ⟨h1, rfl⟩ | ⟨h1, rfl⟩
 ·
  rw [pub_nil h1]; rfl
 ·
  rw [pub_pm h1]
  rcases PM z 0 0 with u | _ | _
  ·
   simp only [WAns]
   rw [if_neg (by decide)]
   cases mi
   ·
    by_cases q : u ≤ 9223372036854775807
    ·
     rw [if_pos ⟨rfl, q⟩]
     simp only [true_and, false_and, if_false, Bool.false_eq_true]
     rw [if_neg (by omega)]; rfl
    ·
     rw [if_neg (fun x => q x.2), if_neg (fun x => by cases x.1)]
     simp only [true_and]
     rw [if_pos (by omega)]; rfl
   ·
    by_cases q : u ≤ 9223372036854775808
    ·
     rw [if_neg (fun x => by cases x.1), if_pos ⟨rfl, q⟩]
     simp only [true_and, false_and, if_false, Bool.true_eq_false, if_true]
     rw [if_neg (by omega)]; rfl
    ·
     rw [if_neg (fun x => by cases x.1), if_neg (fun x => q x.2)]
     simp only [true_and, false_and, if_false, Bool.true_eq_false]
     rw [if_pos (by omega)]; rfl
  ·
   rfl
  ·
   rfl
theorem whl_pu {s : ByteArray} {r : Int × Bool × Bool} (h : WRes s false r) : r = fin3 (IntKind.i64.wrap (wn.pu64 s).1, (wn.pu64 s).2) := by
 obtain ⟨z, mi, hs, h⟩ := h
 have ez : z = s := by
  rcases hs with ⟨rfl, _⟩ | ⟨x, _⟩
  ·
   rfl
  ·
   cases x
 subst ez
 unfold wn.pu64
 rcases h with ⟨h1, rfl⟩ | ⟨h1, rfl⟩
 ·
  rw [pub_nil h1]; rfl
 ·
  rw [pub_pm h1]
  rcases PM z 0 0 with u | _ | _
  ·
   rfl
  ·
   rfl
  ·
   rfl
end Go.Proofs.YtneoieigaakoaaaGreatDoor.pf
end
section
namespace Go.Proofs.HHW
open Go.RowKit Go.Proofs.YtneoieigaakoaaaGreatDoorW.PrintWords
theorem same_ne {P : Program} {w : World} {a b : Addr} {c c' : Array Value} {t t' : TypeId} (hne : a ≠ b) (ha : w.heap[a.block]? = some (.cells c t (0, 0))) (hb : w.heap[b.block]? = some (.cells c' t' (0, 0))) : (sameAddr a b).run P w = .ok false w := by
 by_cases hk : a.block = b.block
 ·
  have : (a == b) = false := beq_eq_false_iff_ne.2 hne
  simp [sameAddr, hk, this]
 ·
  simp [sameAddr, hk, World.frozen?, ha, hb, noView, viewAt, World.shape?, mayBeOne, stringish]
theorem equal_ne {P : Program} {w : World} {t u e : TypeId} {ms : Array (String × TypeId)} {a b : Addr} {n : Nat} (hi : P.underlying t = some (.interface ms)) (hinfo : (P.info? u).map (fun i => i.comparable) = some true) (hp : P.underlying u = some (.pointer e)) (hs : szB P e = some (n + 1)) (h2 : (sameAddr b a).run P w = .ok false w) :
  ((Op.equal t (.iface u (.pointer (some b))) (.iface u (.pointer (some a)))) >>= fun r => pure (Value.bool r)).run P w = .ok (.bool false) w := by
 obtain ⟨i, hi1, hi2⟩ := Option.map_eq_some_iff.1 hinfo
 have h1 : ∀ d : Nat, (Op.equalIn (d + 1) u (.pointer (some b)) (.pointer (some a))).run P w = .ok false w := fun d => by
  simp [Op.equalIn, HHW.run_underlying hp, run_size hs, h2, Result.andThen]
 have h3 : ∀ d : Nat, (Op.equalIn (d + 1 + 1) t (.iface u (.pointer (some b))) (.iface u (.pointer (some a)))).run P w = .ok false w := fun d => by
  rw [Op.equalIn]
  simp [HHW.run_underlying hi, run_info hi1, hi2, h1 d, Result.andThen]
 have h4 : (Op.equal t (.iface u (.pointer (some b))) (.iface u (.pointer (some a)))).run P w = .ok false w := h3 9998
 rw [Sem.run_bind, h4]
 rfl
theorem r_ifdiff {P : Program} {F : List (Nat × Value)} {B : Nat} {w0 : World} {L : List (Nat × Obj)} {t t' u e : TypeId} {x y : Operand} {ms : Array (String × TypeId)} {a b : Addr} {n : Nat} (hi : P.underlying t = some (.interface ms)) (hinfo : (P.info? u).map (fun i => i.comparable) = some true) (hp : P.underlying u = some (.pointer e)) (hs : szB P e = some (n + 1))
  (hx : ev F x = some (.iface u (.pointer (some b)))) (hy : ev F y = some (.iface u (.pointer (some a)))) (hne : b ≠ a) (ha : ∃ c t, w0.heap[a.block]? = some (.cells c t (0, 0))) (hla : a.block < B) (hb : (∃ c t, w0.heap[b.block]? = some (.cells c t (0, 0))) ∧ b.block < B ∨ ∃ o, (b.block, o) ∈ L ∧ ∃ c t, o = .cells c t (0, 0)) : Reads P F B w0 L (.binOp .eql t x y t') (.bool false) := by
 intro ρ A o ho w H
 unfold execOp
 simp only [ho]
 rw [A x _ hx, A y _ hy]
 refine run_v ?_
 obtain ⟨c, tc, h1⟩ := ha
 have e1 : w.heap[a.block]? = some (.cells c tc (0, 0)) := (H.below.block _ hla).trans h1
 have e2 : ∃ c t, w.heap[b.block]? = some (.cells c t (0, 0)) := by
  rcases hb with ⟨⟨c, t, h⟩, hl⟩ | ⟨o, hm, c, t, rfl⟩
  ·
   exact ⟨c, t, (H.below.block _ hl).trans h⟩
  ·
   exact ⟨c, t, H.at_ _ hm⟩
 obtain ⟨c', tc', e2⟩ := e2
 exact equal_ne hi hinfo hp hs (same_ne hne e2 e1)
end Go.Proofs.HHW
namespace Go.Proofs.YtneoieigaakoaaaGreatDoor.pf
open Go.Proofs.YtneoieigaakoaaaGreatDoor.fx
open Go.RowKit Go.Proofs.HHW Go.Proofs.YtneoieigaakoaaaGreatDoorW.PrintWords
structure Vl where
 k : Int := 0
 s : ByteArray := ⟨#[]⟩
 n : Int := 0
 u : Int := 0
 f : Nat := 0
 b : Bool := false
def Vl.v (x : Vl) : Value := .agg #[.int .i64 x.k, .string x.s, .int .i64 x.n, .int .u64 x.u, .float .f64 x.f, .bool x.b]
def inW (s : ByteArray) (l : List ByteArray) : Bool := l.any fun x => s.toList == x.toList
def tTrue : List ByteArray := [⟨#[116]⟩, ⟨#[84]⟩, ⟨#[116, 114, 117, 101]⟩, ⟨#[84, 114, 117, 101]⟩, ⟨#[84, 82, 85, 69]⟩]
def tFalse : List ByteArray := [⟨#[102]⟩, ⟨#[70]⟩, ⟨#[102, 97, 108, 115, 101]⟩, ⟨#[70, 97, 108, 115, 101]⟩, ⟨#[70, 65, 76, 83, 69]⟩]
def okE (e : Option Int) : Bool := e == none
def farE (e : Option Int) : Bool := e == some 1
def okV (k : Int) (s : ByteArray) : Bool := if k = 1 then up.V s 0 else if k = 2 then okE (wn.pi64 s).2 else if k = 3 then okE (wn.pu64 s).2 else if k = 4 then (okE (pr.pff s).2 && fl.fin (pr.pff s).1) else if k = 5 then (inW s tTrue || inW s tFalse) else false
def farV (k : Int) (s : ByteArray) : Bool := if k = 2 then farE (wn.pi64 s).2 else if k = 3 then farE (wn.pu64 s).2 else if k = 4 then farE (pr.pff s).2 else false
def anV (k : Int) (s : ByteArray) : Vl := if k = 1 then { k := 1, s := s } else if k = 2 then { k := 2, n := (wn.pi64 s).1 } else if k = 3 then { k := 3, u := (wn.pu64 s).1 } else if k = 4 then { k := 4, f := (pr.pff s).1 } else { k := 5, b := inW s tTrue }
end Go.Proofs.YtneoieigaakoaaaGreatDoor.pf
end
