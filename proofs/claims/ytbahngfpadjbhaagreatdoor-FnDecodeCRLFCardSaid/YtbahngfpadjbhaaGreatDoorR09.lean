/- Part of the proof that FnDecodeCRLF answers true at every text, in every world that its card's statement admits; no condition beyond those. -/
import Derived.Test.YtbahngfpadjbhaaGreatDoorR08
import Derived.Test.YtbahngfpadjbhaaGreatDoorR05
import Derived.Test.YtbahngfpadjbhaaGreatDoorR04
set_option linter.unusedVariables false
set_option linter.unusedSimpArgs false
section
namespace Go.Proofs.YtbahngfpadjbhaaGreatDoor.dt
open Go.RowKit Go.Proofs.HHW Go.Proofs.YtbahngfpadjbhaaGreatDoorW.PrintWords Go.Proofs.YtbahngfpadjbhaaGreatDoor.dc
def ST (T : Ty) (te : TypeId) (wb w : World) (g : Nat) (X : List Int) (p V : Nat) (sec : Int) (sk : Bool) (line : Nat) (eb : Value) (K : Nat) (D E L : Bk) : Prop :=
 ∃ v cm M, Dec T wb g X p v cm M sec sk eb line .nilIface D ∧ V ≤ v ∧ (∃ A ys c, eb = .slice A ys.length c ∧ OwnB te (.slice A ys.length c) ys E ∧ ys.length ≤ K) ∧ HH wb.heap.size wb w (D ++ (E ++ L))
def Held (D E L : Bk) (eb : Value) (A : Option Addr) (t : List Int) : Prop := t = [] ∨ ∃ gt ot, A = some ⟨gt, ot, none⟩ ∧ (Vis D gt ot t ∨ VisE eb E gt ot t ∨ InG L gt ot t)
theorem Held.kp {D E L D' E' G : Bk} {eb eb' : Value} {A : Option Addr} {t : List Int} (h : Held D E L eb A t) (h1 : Keeps D D' G) (h2 : KeepsE eb E eb' E' G) : Held D' E' (G ++ L) eb' A t := by
 rcases h with h | ⟨gt, ot, hA, h⟩
 ·
  exact .inl h
 ·
  refine .inr ⟨gt, ot, hA, ?_⟩
  rcases h with h | h | h
  ·
   rcases h1 gt ot t h with h | h
   ·
    exact .inl h
   ·
    exact .inr (.inr h.left)
  ·
   rcases h2 gt ot t h with h | h
   ·
    exact .inr (.inl h)
   ·
    exact .inr (.inr h.left)
  ·
   exact .inr (.inr h.right)
theorem Held.sb {B : Nat} {wb w : World} {D E L : Bk} {eb : Value} {A : Option Addr} {t : List Int} {c : Nat} (h : Held D E L eb A t) (H : HH B wb w (D ++ (E ++ L))) (hc : t.length ≤ c) (hn : t ≠ []) : SB w A c t := by
 rcases h with h | ⟨gt, ot, hA, h⟩
 ·
  exact absurd h hn
 ·
  refine ⟨hc, .inr ⟨gt, ot, hA, ?_⟩⟩
  have H' : HH B wb w (D ++ (E ++ (L ++ []))) := by rw [List.append_nil]; exact H
  exact held_rb H' h
theorem Held.some {D E L : Bk} {eb : Value} {A : Option Addr} {t : List Int} (h : Held D E L eb A t) (hn : t ≠ []) : ∃ a, A = some a := by
 rcases h with h | ⟨gt, ot, hA, _⟩
 ·
  exact absurd h hn
 ·
  exact ⟨_, hA⟩
theorem Held.of {D E L : Bk} {eb : Value} {A : Option Addr} {t : List Int} (h : HeldT D E eb A t) : Held D E L eb A t := by
 rcases h with h | ⟨gt, ot, hA, h⟩
 ·
  exact .inl h
 ·
  exact .inr ⟨gt, ot, hA, h.imp id .inl⟩
theorem InG.more {G L : Bk} {gt ot : Nat} {t : List Int} (h : InG L gt ot t) : InG (G ++ L) gt ot t := h.right
def FaultAt (td ti es : TypeId) (B : Nat) (L : Bk) (err : Value) (f : Int × Int) : Prop := ∃ gf gn, err = .iface ti (.pointer (some ⟨gf, 0, none⟩)) ∧ (gf, Obj.cells #[.int .i64 f.1, .int .i64 f.2, .iface es (.pointer (some ⟨gn, 0, none⟩))] td (0, 0)) ∈ L ∧ B ≤ gn ∧ ∃ v0 ty0, (gn, Obj.cells #[v0] ty0 (0, 0)) ∈ L
theorem FaultAt.more {td ti es : TypeId} {B : Nat} {L G : Bk} {err : Value} {f : Int × Int} (h : FaultAt td ti es B L err f) : FaultAt td ti es B (G ++ L) err f := by
 obtain ⟨gf, gn, h1, h2, h3, cs0, ty0, h4⟩ := h
 exact ⟨gf, gn, h1, List.mem_append_right _ h2, h3, cs0, ty0, List.mem_append_right _ h4⟩
def val (t : List Int) : Bool := YtbahngfpadjbhaaGreatDoor.up.V (strOfNums t) 0
def tkT (k s : Nat) (X : List Int) (p : Nat) : List Int := tx (sIn s) (tabH (ints (escS k))) false X p
def tkQ (k s : Nat) (X : List Int) (p : Nat) : Nat := p + (tk (sIn s) (tabH (ints (escS k))) (X.drop p)).2
def run (k : Nat) (X : List Int) (p : Nat) : Nat := p + ((X.drop p).takeWhile fun c => sIn k c.toNat).length
theorem run_end {k : Nat} {X : List Int} {p : Nat} (h : X.length ≤ p) : run k X p = p := by unfold run; rw [List.drop_eq_nil_of_le h]; rfl
theorem run_step {k : Nat} {X : List Int} {p : Nat} (h : p < X.length) (hs : sIn k (X.getD p 0).toNat = true) : run k X p = run k X (p + 1) := by
 unfold run
 rw [drop_at h, List.takeWhile_cons_of_pos (by simpa using hs), List.length_cons]
 omega
theorem run_stop {k : Nat} {X : List Int} {p : Nat} (h : p < X.length) (hs : sIn k (X.getD p 0).toNat = false) : run k X p = p := by
 unfold run
 rw [drop_at h, List.takeWhile_cons_of_neg (by simpa using hs)]
 rfl
theorem run_ge (k : Nat) (X : List Int) (p : Nat) : p ≤ run k X p := by unfold run; omega
theorem run_le {k : Nat} {X : List Int} {p : Nat} (h : p ≤ X.length) : run k X p ≤ X.length := by
 unfold run
 have := (List.takeWhile_sublist (p := fun c : Int => sIn k c.toNat) (l := X.drop p)).length_le
 rw [List.length_drop] at this
 omega
theorem run_at {k : Nat} {X : List Int} : ∀ {p : Nat}, run k X p < X.length → sIn k (X.getD (run k X p) 0).toNat = false := by
 intro p
 induction h : X.length - p generalizing p with
 | zero =>
  intro h2
  have := run_ge k X p
  omega
 | succ m ih =>
  intro h2
  have hp : p < X.length := by omega
  cases hs : sIn k (X.getD p 0).toNat with
  | true => rw [run_step hp hs] at h2 ⊢; exact ih (by omega) h2
  | false => rw [run_stop hp hs]; exact hs
def flt (X : List Int) (q p line : Nat) : Int × Int := ((line : Int) - (cnt 10 ((X.take p).drop q) : Int), ((q - lastp 10 (X.take q) q + 1 : Nat) : Int))
def comma (X : List Int) (p : Nat) : Nat × Bool := if p < X.length ∧ X.getD p 0 = 44 then (p + 1, decide (X.length ≤ p + 1) || sIn 1 (X.getD (p + 1) 0).toNat) else (p, false)
abbrev Ft := Option (Int × Int)
structure Res (α : Type) where
 (r : α) (f : Ft) (p : Nat) (sec : Int) (line : Nat)
def nameP (X : List Int) (line : Nat) : Res (List Int) :=
 if val (tkT 0 5 X 0) = false then ⟨[], some (flt X 0 (tkQ 0 5 X 0) line), tkQ 0 5 X 0, 4, line⟩
 else if tkT 0 5 X 0 = [] then ⟨[], some (flt X 0 (tkQ 0 5 X 0) line), tkQ 0 5 X 0, 4, line⟩
 else if (tkT 0 5 X 0).getD 0 0 = 35 then ⟨[], some (flt X 0 (tkQ 0 5 X 0) line), tkQ 0 5 X 0, 4, line⟩
 else if (comma X (tkQ 0 5 X 0)).2 = true then ⟨[], some (flt X (comma X (tkQ 0 5 X 0)).1 (comma X (tkQ 0 5 X 0)).1 line), (comma X (tkQ 0 5 X 0)).1, 4, line⟩
 else ⟨tkT 0 5 X 0, none, (comma X (tkQ 0 5 X 0)).1, 1, line⟩
def tagP (X : List Int) (p line : Nat) : Res (Option (List Int × List Int)) :=
 if p < X.length ∧ X.getD p 0 = 32 then ⟨none, none, run 0 X p, 2, line⟩
 else if val (tkT 1 2 X p) = false then ⟨none, some (flt X p (tkQ 1 2 X p) line), tkQ 1 2 X p, 4, line⟩
 else if tkT 1 2 X p = [] ∨ X.length ≤ tkQ 1 2 X p ∨ X.getD (tkQ 1 2 X p) 0 ≠ 61 then ⟨none, some (flt X p (tkQ 1 2 X p) line), tkQ 1 2 X p, 4, line⟩
 else if val (tkT 2 6 X (tkQ 1 2 X p + 1)) = false then ⟨none, some (flt X (tkQ 1 2 X p + 1) (tkQ 2 6 X (tkQ 1 2 X p + 1)) line), tkQ 2 6 X (tkQ 1 2 X p + 1), 4, line⟩
 else if tkT 2 6 X (tkQ 1 2 X p + 1) = [] then ⟨none, some (flt X (tkQ 1 2 X p + 1) (tkQ 2 6 X (tkQ 1 2 X p + 1)) line), tkQ 2 6 X (tkQ 1 2 X p + 1), 4, line⟩
 else if X.length ≤ tkQ 2 6 X (tkQ 1 2 X p + 1) then ⟨some (tkT 1 2 X p, tkT 2 6 X (tkQ 1 2 X p + 1)), none, tkQ 2 6 X (tkQ 1 2 X p + 1), 2, line⟩
 else if (comma X (tkQ 2 6 X (tkQ 1 2 X p + 1))).2 = true then ⟨none, some (flt X (comma X (tkQ 2 6 X (tkQ 1 2 X p + 1))).1 (comma X (tkQ 2 6 X (tkQ 1 2 X p + 1))).1 line), (comma X (tkQ 2 6 X (tkQ 1 2 X p + 1))).1, 4, line⟩
 else ⟨some (tkT 1 2 X p, tkT 2 6 X (tkQ 1 2 X p + 1)), none, (comma X (tkQ 2 6 X (tkQ 1 2 X p + 1))).1, 1, line⟩
def behindP (X : List Int) (key : List Int) (kind : Int) (raw : List Int) (q line : Nat) : Res (Option (List Int × Int × List Int)) :=
 if X.length ≤ q then ⟨some (key, kind, raw), none, q, 5, line⟩
 else if X.getD q 0 = 44 then ⟨some (key, kind, raw), none, q + 1, 2, line⟩
 else if sIn 1 (X.getD q 0).toNat = false then ⟨none, some (flt X q q line), q, 4, line⟩
 else if (eol X (run 0 X q)).1 = true then ⟨some (key, kind, raw), none, run 0 X q + (eol X (run 0 X q)).2.1, 5, line + (eol X (run 0 X q)).2.2⟩
 else ⟨some (key, kind, raw), none, run 0 X q, 3, line⟩
def numK (t : List Int) : Int × List Int := if t.getD (t.length - 1) 0 = 105 then (1, t.take (t.length - 1)) else if t.getD (t.length - 1) 0 = 117 then (2, t.take (t.length - 1)) else (3, t)
def fieldP (kS kB : Int) (kN : Int → Int) (X : List Int) (p line : Nat) : Res (Option (List Int × Int × List Int)) :=
 if val (tkT 3 7 X p) = false then ⟨none, some (flt X p (tkQ 3 7 X p) line), tkQ 3 7 X p, 4, line⟩
 else if tkT 3 7 X p = [] then ⟨none, some (flt X p (tkQ 3 7 X p) line), tkQ 3 7 X p, 4, line⟩
 else if X.length ≤ tkQ 3 7 X p ∨ X.getD (tkQ 3 7 X p) 0 ≠ 61 then ⟨none, some (flt X (tkQ 3 7 X p) (tkQ 3 7 X p) line), tkQ 3 7 X p, 4, line⟩
 else if X.length ≤ tkQ 3 7 X p + 1 then ⟨none, some (flt X (tkQ 3 7 X p + 1) (tkQ 3 7 X p + 1) line), tkQ 3 7 X p + 1, 4, line⟩
 else if X.getD (tkQ 3 7 X p + 1) 0 = 34 then
  (if val (tkT 4 8 X (tkQ 3 7 X p + 2)) = false then ⟨none, some (flt X (tkQ 3 7 X p + 2) (tkQ 4 8 X (tkQ 3 7 X p + 2)) (lnT (sIn 8) X (tkQ 3 7 X p + 2) (tkQ 4 8 X (tkQ 3 7 X p + 2)) line)), tkQ 4 8 X (tkQ 3 7 X p + 2), 4, lnT (sIn 8) X (tkQ 3 7 X p + 2) (tkQ 4 8 X (tkQ 3 7 X p + 2)) line⟩
  else if X.length ≤ tkQ 4 8 X (tkQ 3 7 X p + 2) then ⟨none, some (flt X (tkQ 3 7 X p + 1) (tkQ 4 8 X (tkQ 3 7 X p + 2)) (lnT (sIn 8) X (tkQ 3 7 X p + 2) (tkQ 4 8 X (tkQ 3 7 X p + 2)) line)), tkQ 4 8 X (tkQ 3 7 X p + 2), 4, lnT (sIn 8) X (tkQ 3 7 X p + 2) (tkQ 4 8 X (tkQ 3 7 X p + 2)) line⟩
  else behindP X (tkT 3 7 X p) kS (tkT 4 8 X (tkQ 3 7 X p + 2)) (tkQ 4 8 X (tkQ 3 7 X p + 2) + 1) (lnT (sIn 8) X (tkQ 3 7 X p + 2) (tkQ 4 8 X (tkQ 3 7 X p + 2)) line))
 else if X.getD (tkQ 3 7 X p + 1) 0 = 116 ∨ X.getD (tkQ 3 7 X p + 1) 0 = 84 ∨ X.getD (tkQ 3 7 X p + 1) 0 = 102 ∨ X.getD (tkQ 3 7 X p + 1) 0 = 70 then
  behindP X (tkT 3 7 X p) kB ((X.take (run 9 X (tkQ 3 7 X p + 1))).drop (tkQ 3 7 X p + 1)) (run 9 X (tkQ 3 7 X p + 1)) line
 else if X.getD (tkQ 3 7 X p + 1) 0 = 45 ∨ X.getD (tkQ 3 7 X p + 1) 0 = 46 ∨ (48 ≤ X.getD (tkQ 3 7 X p + 1) 0 ∧ X.getD (tkQ 3 7 X p + 1) 0 ≤ 57) then
  behindP X (tkT 3 7 X p) (kN (numK ((X.take (run 9 X (tkQ 3 7 X p + 1))).drop (tkQ 3 7 X p + 1))).1) (numK ((X.take (run 9 X (tkQ 3 7 X p + 1))).drop (tkQ 3 7 X p + 1))).2 (run 9 X (tkQ 3 7 X p + 1)) line
 else ⟨none, some (flt X (tkQ 3 7 X p + 1) (tkQ 3 7 X p + 1) line), tkQ 3 7 X p + 1, 4, line⟩
def fsec (sec : Int) : Int := if sec = 5 then 5 else 4
def timeP (X : List Int) (p line : Nat) : Res (List Int) :=
 if X.length ≤ run 10 X p then ⟨(X.take (run 10 X p)).drop p, none, run 10 X p, 5, line⟩
 else if sIn 1 (X.getD (run 10 X p) 0).toNat = false then ⟨[], some (flt X p (run 12 X (run 10 X p)) line), run 12 X (run 10 X p), if run 10 X p = p then 5 else 4, line⟩
 else if (eol X (run 0 X (run 10 X p))).1 = true then ⟨(X.take (run 10 X p)).drop p, none, run 0 X (run 10 X p) + (eol X (run 0 X (run 10 X p))).2.1, 5, line + (eol X (run 0 X (run 10 X p))).2.2⟩
 else ⟨[], some (flt X (run 0 X (run 10 X p)) (run 12 X (run 0 X (run 10 X p))) line), run 12 X (run 0 X (run 10 X p)), if run 10 X p = p then 5 else 4, line⟩
def skipP (X : List Int) : Nat → Nat → Nat → Nat × Nat
 | 0, p, line => (p, line)
 | f + 1, p, line =>
  if X.length ≤ run 0 X p then (run 0 X p, line)
  else if X.getD (run 0 X p) 0 = 35 then
   (if (eol X (run 11 X (run 0 X p))).1 = true then skipP X f (run 11 X (run 0 X p) + (eol X (run 11 X (run 0 X p))).2.1) (line + (eol X (run 11 X (run 0 X p))).2.2) else (p, line))
  else if X.getD (run 0 X p) 0 = 10 ∨ X.getD (run 0 X p) 0 = 13 then
   (if (eol X (run 0 X p)).1 = true then skipP X f (run 0 X p + (eol X (run 0 X p)).2.1) (line + (eol X (run 0 X p)).2.2) else (run 0 X p, line))
  else (run 0 X p, line)
def restP (X : List Int) (p line : Nat) : List Int × Nat := if run 13 X p < X.length then (X.drop (run 13 X p + 1), line + 1) else (X.drop (run 13 X p), line)
end Go.Proofs.YtbahngfpadjbhaaGreatDoor.dt
end
section
namespace Go.Proofs.YtbahngfpadjbhaaGreatDoor.dec
open Go.Proofs.YtbahngfpadjbhaaGreatDoor.fx
open Go.RowKit Go.Proofs.HHW Go.Proofs.YtbahngfpadjbhaaGreatDoorW.PrintWords
namespace ga
open Go.Proofs.HHW (EscOk escT)
def hp (s p : ByteArray) : Bool := decide (p.size ≤ s.size) && ((s.extract 0 p.size).toList == p.toList)
theorem _root_.Go.Proofs.HHW.EscOk.lt {r : Nat} (h : EscOk r) : r < 127 := by unfold EscOk at h; omega
theorem escT_len (r : Nat) : (escT r).length ≤ 2 := by unfold escT; split <;> simp
theorem vrune_ (w0 : World) (r : Int) (h0 : 0 ≤ r) (h1 : r < 128) : Calls Tryz.prog 103 #[.int .i32 r] w0 fun e w' => e = .returned (.bool true) ∧ Below w0.heap.size w0 w' := by
 have H := HH.start w0
 refine c_enter (args := [.int .i32 r]) (k := 16) Tryz.func103 rfl rfl rfl ?_
 refine pS (pG (pM 1 rfl (pL (pT (pS (pB (pS (pG (pM 1 rfl (pP (p_leq rfl rfl) rfl (pM 1 rfl ?_)))))))))));intro a S
 refine l_split (S.of 6 rfl) (fun bc3 => ?_) (fun bc3 => ?_)
 ·
  have c3 := of_decide_eq_true bc3
  revert a;refine pN bc3 (pP (p_move rfl) rfl (pN bc3 (pP (p_lss rfl rfl) rfl (pP (p_pick_t rfl bc3 rfl) rfl (pM 1 rfl (pL (pT (zc rfl (fun bc5 => ?_) (fun bc5 => ?_)))))))))
  ·
   have c5 := of_decide_eq_true bc5
   refine pS (pG (pM 1 rfl (pL (pT (pZ (pJ (pU ?_)))))));intro a S
   exact r_ret1 S rfl rfl ⟨rfl, H.below⟩
  have c5 := of_decide_eq_false bc5
  refine pS (pG (pM 1 rfl (pP (p_lss rfl rfl) rfl (pM 1 rfl ?_))));intro a S
  refine l_split (S.of 13 rfl) (fun bc8 => ?_) (fun bc8 => ?_)
  ·
   have c8 := of_decide_eq_true bc8
   revert a;refine pN bc8 (pP (p_move rfl) rfl (pN bc8 (pP (p_leq rfl rfl) rfl (pP (p_pick_t rfl bc8 rfl) rfl (pM 1 rfl (pL (pT (zc rfl (fun bc10 => ?_) (fun bc10 => ?_)))))))))
   ·
    have c10 := of_decide_eq_true bc10
    refine pS (pG (pM 1 rfl (pL (pT (pZ (pJ (pU ?_)))))));intro a S
    exact r_ret1 S rfl rfl ⟨rfl, H.below⟩
   have c10 := of_decide_eq_false bc10
   refine pK (pI 0 (pT (pS (pG (pM 1 rfl (pL (pT (pZ ?_))))))));intro a S
   exfalso; omega
  have c8 := of_decide_eq_false bc8
  revert a;refine pO bc8 rfl (pO bc8 rfl (pP (p_pick_f rfl bc8 rfl) rfl (pM 1 rfl (pL (pT (zf (pK (pI 0 (pT (pS (pG (pM 1 rfl (pL (pT (pZ ?_)))))))))))))));intro a S
  exfalso; omega
 have c3 := of_decide_eq_false bc3
 revert a;refine pO bc3 rfl (pO bc3 rfl (pP (p_pick_f rfl bc3 rfl) rfl (pM 1 rfl (pL (pT (zf (pS (pG (pM 1 rfl (pP (p_lss rfl rfl) rfl (pM 1 rfl ?_)))))))))));intro a S
 refine l_split (S.of 13 rfl) (fun bc19 => ?_) (fun bc19 => ?_)
 ·
  have c19 := of_decide_eq_true bc19
  revert a;refine pN bc19 (pP (p_move rfl) rfl (pN bc19 (pP (p_leq rfl rfl) rfl (pP (p_pick_t rfl bc19 rfl) rfl (pM 1 rfl (pL (pT (zc rfl (fun bc21 => ?_) (fun bc21 => ?_)))))))))
  ·
   have c21 := of_decide_eq_true bc21
   refine pS (pG (pM 1 rfl (pL (pT (pZ (pJ (pU ?_)))))));intro a S
   exact r_ret1 S rfl rfl ⟨rfl, H.below⟩
  have c21 := of_decide_eq_false bc21
  refine pK (pI 0 (pT (pS (pG (pM 1 rfl (pL (pT (pZ ?_))))))));intro a S
  exfalso; omega
 have c19 := of_decide_eq_false bc19
 revert a;refine pO bc19 rfl (pO bc19 rfl (pP (p_pick_f rfl bc19 rfl) rfl (pM 1 rfl (pL (pT (zf (pK (pI 0 (pT (pS (pG (pM 1 rfl (pL (pT (pZ ?_)))))))))))))));intro a S
 exfalso; omega
theorem isPrint_ (w0 : World) (r : Int) (h0 : 0 ≤ r) (h1 : r < 127) : Calls Tryz.prog 105 #[.int .i32 r] w0 fun e w' => e = .returned (.bool (decide (32 ≤ r))) ∧ Below w0.heap.size w0 w' := by
 have H := HH.start w0
 refine c_enter (args := [.int .i32 r]) (k := 123) Tryz.func105 rfl rfl rfl ?_
 refine pS (pG (pM 1 rfl (pL (pT (pS (pS (pG (pM 1 rfl (pP (p_leq rfl rfl) rfl (pL (pT ?_)))))))))));intro a S
 refine c_cond S rfl (fun c3 => ?_) (fun c3 => by have c3 := of_decide_eq_false c3; exfalso; omega)
 have c3 := of_decide_eq_true c3
 revert a;refine pS (pS (pG (pM 1 rfl (pP (p_leq rfl rfl) rfl (pM 1 rfl ?_)))));intro a S
 refine l_split (S.of 21 rfl) (fun bc5 => ?_) (fun bc5 => ?_)
 ·
  have c5 := of_decide_eq_true bc5
  revert a;refine pN bc5 (pP (p_move rfl) rfl (pN bc5 (pP (p_leq rfl rfl) rfl (pP (p_pick_t rfl bc5 rfl) rfl (pL (pT (zc rfl (fun bc7 => ?_) (fun bc7 => ?_))))))))
  ·
   have c7 := of_decide_eq_true bc7
   refine pS (pG (pM 1 rfl (pL (pT (pZ (pU (pU ?_)))))));intro a S
   exact r_ret1 S rfl rfl ⟨by rw [decide_eq_true (by omega)], H.below⟩
  have c7 := of_decide_eq_false bc7
  refine pK (pT (pS (pS (pG (pM 1 rfl (pP (p_leq rfl rfl) rfl (pM 1 rfl ?_)))))));intro a S
  refine l_split (S.of 27 rfl) (fun bc10 => ?_) (fun bc10 => ?_)
  ·
   have c10 := of_decide_eq_true bc10
   revert a;refine pN bc10 (pP (p_move rfl) rfl (pN bc10 (pP (p_leq rfl rfl) rfl (pP (p_pick_t rfl bc10 rfl) rfl (pL (pT (zc rfl (fun bc12 => ?_) (fun bc12 => ?_))))))))
   ·
    have c12 := of_decide_eq_true bc12
    refine pS (pG (pM 1 rfl (pP (p_neq rfl rfl) rfl (pM 1 rfl (pL (pT (pZ (pU (pU ?_)))))))));intro a S
    exfalso; omega
   have c12 := of_decide_eq_false bc12
   refine pK (pT (pS (pG (pM 1 rfl (pL (pT (pZ (pU ?_))))))));intro a S
   exact r_ret1 S rfl rfl ⟨by rw [decide_eq_false (by omega)], H.below⟩
  have c10 := of_decide_eq_false bc10
  revert a;refine pO bc10 rfl (pO bc10 rfl (pP (p_pick_f rfl bc10 rfl) rfl (pL (pT (zf (pK (pT (pS (pG (pM 1 rfl (pL (pT (pZ (pU ?_))))))))))))));intro a S
  exact r_ret1 S rfl rfl ⟨by rw [decide_eq_false (by omega)], H.below⟩
 have c5 := of_decide_eq_false bc5
 revert a;refine pO bc5 rfl (pO bc5 rfl (pP (p_pick_f rfl bc5 rfl) rfl (pL (pT (zf (pK (pT (pS (pS (pG (pM 1 rfl (pP (p_leq rfl rfl) rfl (pM 1 rfl ?_)))))))))))));intro a S
 refine l_split (S.of 27 rfl) (fun bc21 => ?_) (fun bc21 => ?_)
 ·
  have c21 := of_decide_eq_true bc21
  revert a;refine pN bc21 (pP (p_move rfl) rfl (pN bc21 (pP (p_leq rfl rfl) rfl (pP (p_pick_t rfl bc21 rfl) rfl (pL (pT (zc rfl (fun bc23 => ?_) (fun bc23 => ?_))))))))
  ·
   have c23 := of_decide_eq_true bc23
   refine pS (pG (pM 1 rfl (pP (p_neq rfl rfl) rfl (pM 1 rfl (pL (pT (pZ (pU (pU ?_)))))))));intro a S
   exfalso; omega
  have c23 := of_decide_eq_false bc23
  refine pK (pT (pS (pG (pM 1 rfl (pL (pT (pZ (pU ?_))))))));intro a S
  exact r_ret1 S rfl rfl ⟨by rw [decide_eq_false (by omega)], H.below⟩
 have c21 := of_decide_eq_false bc21
 revert a;refine pO bc21 rfl (pO bc21 rfl (pP (p_pick_f rfl bc21 rfl) rfl (pL (pT (zf (pK (pT (pS (pG (pM 1 rfl (pL (pT (pZ (pU ?_))))))))))))));intro a S
 exact r_ret1 S rfl rfl ⟨by rw [decide_eq_false (by omega)], H.below⟩
theorem hasPrefix_ (w0 : World) (s p : ByteArray) (hs : s.size ≤ 1000000) (hpz : p.size ≤ 1000000) : Calls Tryz.prog 102 #[.string s, .string p] w0 fun e w' => e = .returned (.bool (hp s p)) ∧ Below w0.heap.size w0 w' := by
 have H := HH.start w0
 refine c_enter (args := [.string s, .string p]) (k := 16) Tryz.func102 rfl rfl rfl ?_
 refine pS (pG (pM 1 rfl (pL (pT (pS (pG (pM 1 rfl (pP (p_lens Tryz.underlying9 rfl) rfl (pM 1 rfl (pP (p_lens Tryz.underlying9 rfl) rfl (pP (p_geq rfl rfl) rfl (pM 1 rfl ?_))))))))))));intro a S
 refine l_split (S.of 10 rfl) (fun bc3 => ?_) (fun bc3 => ?_)
 ·
  have c3 := of_decide_eq_true bc3
  revert a;refine pN bc3 (pP (p_move rfl) rfl (pN bc3 (pP (p_move rfl) rfl (pN bc3 (pP (p_lens Tryz.underlying9 rfl) rfl (pN bc3 (pP (p_slice rfl (fun _ _ => o_none) (o_some rfl) (fun _ _ => o_none) (fun w => sl_string_hi Tryz.underlying9 (by omega) (by omega))) rfl (pN bc3 (pP (p_move rfl) rfl (pN bc3 (pP (p_seql rfl rfl) rfl (pP (p_pick_t rfl bc3 rfl) rfl (pM 1 rfl (pL (pT (pZ ?_))))))))))))))));intro a S
  exact r_ret1 S rfl rfl ⟨by unfold hp; rw [decide_eq_true (by omega)]; rw [Bool.true_and]; rfl, H.below⟩
 have c3 := of_decide_eq_false bc3
 revert a;refine pO bc3 rfl (pO bc3 rfl (pO bc3 rfl (pO bc3 rfl (pO bc3 rfl (pO bc3 rfl (pP (p_pick_f rfl bc3 rfl) rfl (pM 1 rfl (pL (pT (pZ ?_))))))))));intro a S
 exact r_ret1 S rfl rfl ⟨by unfold hp; rw [decide_eq_false (by omega)]; rfl, H.below⟩
theorem trim0_ (w0 : World) (s p : ByteArray) (hs : s.size ≤ 1000000) (hpz : p.size ≤ 1000000) : Calls Tryz.prog 100 #[.string s, .string p] w0 fun e w' => e = .returned (.string (if hp s p then s.extract p.size s.size else s)) ∧ Below w0.heap.size w0 w' := by
 have H := HH.start w0
 refine c_enter (args := [.string s, .string p]) (k := 11) Tryz.func100 rfl rfl rfl ?_
 refine pS (pG (pM 1 rfl (pL (pT (pS (pS (pG (pM 2 rfl ?_))))))));intro a S
 refine l_call S rfl rfl Tryz.func102 rfl rfl (hasPrefix_ _ s p hs hpz) rfl rfl rfl ?_
 rintro e w ⟨rfl, hb⟩
 refine ⟨_, rfl, ?_⟩;clear S a
 replace H := H.later hb; clear hb
 refine pL (pT (zc rfl (fun bc2 => ?_) (fun bc2 => ?_)))
 ·
  have c2 := bc2
  have hle : p.size ≤ s.size := by unfold hp at c2; simp at c2; exact c2.1
  refine pS (pG (pM 2 rfl (pP (p_lens Tryz.underlying9 rfl) rfl (pP (p_slice rfl (o_some rfl) (fun _ _ => o_none) (fun _ _ => o_none) (fun w => sl_string_lo Tryz.underlying9 (by omega) (by omega))) rfl ?_))));intro a S
  rw [Int.toNat_natCast] at S
  revert a;refine pM 1 rfl (pL (pT (pZ (pU ?_))));intro a S
  exact r_ret1 S rfl rfl ⟨by rw [if_pos c2], H.below⟩
 have c2 := bc2
 refine pK (pT (pS (pG (pM 2 rfl (pL (pT (pZ ?_)))))));intro a S
 exact r_ret1 S rfl rfl ⟨by rw [if_neg (by rw [c2]; decide)], H.below⟩
theorem trim_ (w0 : World) (s p : ByteArray) (hs : s.size ≤ 1000000) (hpz : p.size ≤ 1000000) : Calls Tryz.prog 94 #[.string s, .string p] w0 fun e w' => e = .returned (.string (if hp s p then s.extract p.size s.size else s)) ∧ Below w0.heap.size w0 w' := by
 have H := HH.start w0
 refine c_enter (args := [.string s, .string p]) (k := 6) Tryz.func94 rfl rfl rfl ?_
 refine pS (pG (pM 1 rfl (pL (pT (pS (pG (pM 2 rfl ?_)))))));intro a S
 refine l_call S rfl rfl Tryz.func100 rfl rfl (trim0_ _ s p hs hpz) rfl rfl rfl ?_
 rintro e w ⟨rfl, hb⟩
 refine ⟨_, rfl, ?_⟩;clear S a
 replace H := H.later hb; clear hb
 refine pM 1 rfl (pL (pT (pZ ?_)));intro a S
 exact r_ret1 S rfl rfl ⟨rfl, H.below⟩
theorem appRune_ (wb w0 : World) (B : Nat) (L0 : List (Nat × Obj)) (E : List (Nat × Obj)) (A : Option Addr) (c : Nat) (xs : List Int) (r : Nat) (hr : r < 128) (hOw : OwnB 5 (.slice A xs.length c) xs E) (H : HH B wb w0 (E ++ L0)) (hx : xs.length ≤ 100000) : Calls Tryz.prog 107 #[.slice A xs.length c, .int .i32 (r : Int)] w0 fun e w' => ∃ A' c' E', e = .returned (.slice A' (xs ++ [(r : Int)]).length c') ∧ OwnB 5 (.slice A' (xs ++ [(r : Int)]).length c') (xs ++ [(r : Int)]) E' ∧ HH B wb w' (E' ++ L0) := by
 refine c_enter (args := [.slice A xs.length c, .int .i32 (r : Int)]) (k := 14) Tryz.func107 rfl rfl rfl ?_
 refine pS (pG (pM 1 rfl (pL (pT (pS (pS (pG (pM 1 rfl (pP (p_conv rfl (fun w => cv_int (Tryz.underlying21) (Tryz.underlying148) (r := (r : Int)) (by rw [IntKind.wrap_u32]; omega))) rfl (pP (p_leq rfl rfl) rfl (pL (pT ?_))))))))))));intro a S
 refine c_cond S rfl (fun c2 => ?_) (fun c2 => by have c2 := of_decide_eq_false c2; exfalso; omega)
 have c2 := of_decide_eq_true c2
 revert a;refine pS (pG (pM 2 rfl (pP (p_conv rfl (fun w => cv_int (Tryz.underlying21) (Tryz.underlying5) (r := (r : Int)) (by rw [IntKind.wrap_u8]; omega))) rfl ?_)));intro a S
 refine l_lit [(.tmp 10)] S H rfl rfl Tryz.underlying23 sz5 zv5 rfl rfl (by simp [Value.cells]) rfl rfl rfl ?_; clear S a H; intro g3 w a H S
 refine l_ownB [_] (r := [(r : Int)]) S H rfl rfl rfl hOw (src_lit (vs := ([(r : Int)]).map (Value.int .u8)) H m0 Tryz.underlying23 (by simp [Value.oneCell'])) Tryz.underlying23 in5 rfl (by simp only [List.length_cons, List.length_nil]; omega) (by decide) rfl rfl rfl ?_; clear S a H; intro Aow4 cow4 ow4 w a how4 H S; replace H := H.tail
 revert a;refine pM 1 rfl (pL (pT (pZ (pU ?_))));intro a S
 exact r_ret1 S rfl rfl ⟨_, _, ow4, rfl, how4, H⟩
theorem esc32_ (wb w0 : World) (B : Nat) (L0 : List (Nat × Obj)) (E : List (Nat × Obj)) (A : Option Addr) (c : Nat) (xs : List Int) (hOw : OwnB 5 (.slice A xs.length c) xs E) (H : HH B wb w0 (E ++ L0)) (hx : xs.length ≤ 100000) : Calls Tryz.prog 104 #[.slice A xs.length c, .int .i32 32, .int .u8 39, .bool false, .bool false] w0 fun e w' => ∃ A' c' E', e = .returned (.slice A' (xs ++ [32]).length c') ∧ OwnB 5 (.slice A' (xs ++ [32]).length c') (xs ++ [32]) E' ∧ HH B wb w' (E' ++ L0) := by
 refine c_enter (args := [.slice A xs.length c, .int .i32 32, .int .u8 39, .bool false, .bool false]) (k := 140) Tryz.func104 rfl rfl rfl ?_
 refine pS (pG (pM 1 rfl (pL (pT (pS (pS (pG (pM 2 rfl (pP (p_conv rfl (fun w => cv_int (Tryz.underlying5) (Tryz.underlying21) (r := 39) (by decide))) rfl (pP (p_eql rfl rfl) rfl (pM 1 rfl (pN rfl (pP (p_move rfl) rfl (pN rfl (pP (p_eql rfl rfl) rfl (pP (p_pick_f rfl rfl rfl) rfl (pL (pT (zf (pK (pT (pS (pS (pG (pM 1 rfl (pL (pT (zf (pS (pG (pM 1 rfl ?_)))))))))))))))))))))))))))))));intro a S
 refine l_call S rfl rfl Tryz.func105 rfl rfl (isPrint_ _ 32 (by decide) (by decide)) rfl rfl rfl ?_
 rintro e w ⟨rfl, hb⟩
 refine ⟨_, rfl, ?_⟩;clear S a
 replace H := H.later hb; clear hb
 intro a S
 rw [show decide ((32 : Int) ≤ 32) = true by decide] at S
 revert a;refine pM 1 rfl (pO rfl rfl (pO rfl rfl ?_));intro a S
 refine l_offU S rfl rfl rfl rfl rfl rfl ?_; clear S a; intro a S
 refine l_offU S rfl rfl rfl rfl rfl rfl ?_; clear S a; intro a S
 revert a;refine pO rfl rfl (pP (p_pick_t rfl rfl rfl) rfl (pL (pT (zt (pS (pG (pM 2 rfl ?_)))))))
 have hcon := appRune_ wb _ B L0 E A c xs 32 (by decide) hOw H hx
 refine pC Tryz.func107 hcon ?_
 rintro e w ⟨A1, c1, E1, rfl, hOw1, hH⟩
 refine ⟨_, rfl, ?_⟩
 clear H hcon; have H := hH; clear hH
 refine pM 1 rfl (pL (pT (pZ (pU ?_))))
 have hl : (xs ++ [((32 : Nat) : Int)]) = xs ++ [32] := by simp [ints]
 intro a S
 rw [hl] at S hOw1
 exact r_ret1 S rfl rfl ⟨_, _, E1, rfl, hOw1, H⟩
theorem esc44_ (wb w0 : World) (B : Nat) (L0 : List (Nat × Obj)) (E : List (Nat × Obj)) (A : Option Addr) (c : Nat) (xs : List Int) (hOw : OwnB 5 (.slice A xs.length c) xs E) (H : HH B wb w0 (E ++ L0)) (hx : xs.length ≤ 100000) : Calls Tryz.prog 104 #[.slice A xs.length c, .int .i32 44, .int .u8 39, .bool false, .bool false] w0 fun e w' => ∃ A' c' E', e = .returned (.slice A' (xs ++ [44]).length c') ∧ OwnB 5 (.slice A' (xs ++ [44]).length c') (xs ++ [44]) E' ∧ HH B wb w' (E' ++ L0) := by
 refine c_enter (args := [.slice A xs.length c, .int .i32 44, .int .u8 39, .bool false, .bool false]) (k := 140) Tryz.func104 rfl rfl rfl ?_
 refine pS (pG (pM 1 rfl (pL (pT (pS (pS (pG (pM 2 rfl (pP (p_conv rfl (fun w => cv_int (Tryz.underlying5) (Tryz.underlying21) (r := 39) (by decide))) rfl (pP (p_eql rfl rfl) rfl (pM 1 rfl (pN rfl (pP (p_move rfl) rfl (pN rfl (pP (p_eql rfl rfl) rfl (pP (p_pick_f rfl rfl rfl) rfl (pL (pT (zf (pK (pT (pS (pS (pG (pM 1 rfl (pL (pT (zf (pS (pG (pM 1 rfl ?_)))))))))))))))))))))))))))))));intro a S
 refine l_call S rfl rfl Tryz.func105 rfl rfl (isPrint_ _ 44 (by decide) (by decide)) rfl rfl rfl ?_
 rintro e w ⟨rfl, hb⟩
 refine ⟨_, rfl, ?_⟩;clear S a
 replace H := H.later hb; clear hb
 intro a S
 rw [show decide ((32 : Int) ≤ 44) = true by decide] at S
 revert a;refine pM 1 rfl (pO rfl rfl (pO rfl rfl ?_));intro a S
 refine l_offU S rfl rfl rfl rfl rfl rfl ?_; clear S a; intro a S
 refine l_offU S rfl rfl rfl rfl rfl rfl ?_; clear S a; intro a S
 revert a;refine pO rfl rfl (pP (p_pick_t rfl rfl rfl) rfl (pL (pT (zt (pS (pG (pM 2 rfl ?_)))))))
 have hcon := appRune_ wb _ B L0 E A c xs 44 (by decide) hOw H hx
 refine pC Tryz.func107 hcon ?_
 rintro e w ⟨A1, c1, E1, rfl, hOw1, hH⟩
 refine ⟨_, rfl, ?_⟩
 clear H hcon; have H := hH; clear hH
 refine pM 1 rfl (pL (pT (pZ (pU ?_))))
 have hl : (xs ++ [((44 : Nat) : Int)]) = xs ++ [44] := by simp [ints]
 intro a S
 rw [hl] at S hOw1
 exact r_ret1 S rfl rfl ⟨_, _, E1, rfl, hOw1, H⟩
theorem esc61_ (wb w0 : World) (B : Nat) (L0 : List (Nat × Obj)) (E : List (Nat × Obj)) (A : Option Addr) (c : Nat) (xs : List Int) (hOw : OwnB 5 (.slice A xs.length c) xs E) (H : HH B wb w0 (E ++ L0)) (hx : xs.length ≤ 100000) : Calls Tryz.prog 104 #[.slice A xs.length c, .int .i32 61, .int .u8 39, .bool false, .bool false] w0 fun e w' => ∃ A' c' E', e = .returned (.slice A' (xs ++ [61]).length c') ∧ OwnB 5 (.slice A' (xs ++ [61]).length c') (xs ++ [61]) E' ∧ HH B wb w' (E' ++ L0) := by
 refine c_enter (args := [.slice A xs.length c, .int .i32 61, .int .u8 39, .bool false, .bool false]) (k := 140) Tryz.func104 rfl rfl rfl ?_
 refine pS (pG (pM 1 rfl (pL (pT (pS (pS (pG (pM 2 rfl (pP (p_conv rfl (fun w => cv_int (Tryz.underlying5) (Tryz.underlying21) (r := 39) (by decide))) rfl (pP (p_eql rfl rfl) rfl (pM 1 rfl (pN rfl (pP (p_move rfl) rfl (pN rfl (pP (p_eql rfl rfl) rfl (pP (p_pick_f rfl rfl rfl) rfl (pL (pT (zf (pK (pT (pS (pS (pG (pM 1 rfl (pL (pT (zf (pS (pG (pM 1 rfl ?_)))))))))))))))))))))))))))))));intro a S
 refine l_call S rfl rfl Tryz.func105 rfl rfl (isPrint_ _ 61 (by decide) (by decide)) rfl rfl rfl ?_
 rintro e w ⟨rfl, hb⟩
 refine ⟨_, rfl, ?_⟩;clear S a
 replace H := H.later hb; clear hb
 intro a S
 rw [show decide ((32 : Int) ≤ 61) = true by decide] at S
 revert a;refine pM 1 rfl (pO rfl rfl (pO rfl rfl ?_));intro a S
 refine l_offU S rfl rfl rfl rfl rfl rfl ?_; clear S a; intro a S
 refine l_offU S rfl rfl rfl rfl rfl rfl ?_; clear S a; intro a S
 revert a;refine pO rfl rfl (pP (p_pick_t rfl rfl rfl) rfl (pL (pT (zt (pS (pG (pM 2 rfl ?_)))))))
 have hcon := appRune_ wb _ B L0 E A c xs 61 (by decide) hOw H hx
 refine pC Tryz.func107 hcon ?_
 rintro e w ⟨A1, c1, E1, rfl, hOw1, hH⟩
 refine ⟨_, rfl, ?_⟩
 clear H hcon; have H := hH; clear hH
 refine pM 1 rfl (pL (pT (pZ (pU ?_))))
 have hl : (xs ++ [((61 : Nat) : Int)]) = xs ++ [61] := by simp [ints]
 intro a S
 rw [hl] at S hOw1
 exact r_ret1 S rfl rfl ⟨_, _, E1, rfl, hOw1, H⟩
theorem esc92_ (wb w0 : World) (B : Nat) (L0 : List (Nat × Obj)) (E : List (Nat × Obj)) (A : Option Addr) (c : Nat) (xs : List Int) (hOw : OwnB 5 (.slice A xs.length c) xs E) (H : HH B wb w0 (E ++ L0)) (hx : xs.length ≤ 100000) : Calls Tryz.prog 104 #[.slice A xs.length c, .int .i32 92, .int .u8 39, .bool false, .bool false] w0 fun e w' => ∃ A' c' E', e = .returned (.slice A' (xs ++ [92, 92]).length c') ∧ OwnB 5 (.slice A' (xs ++ [92, 92]).length c') (xs ++ [92, 92]) E' ∧ HH B wb w' (E' ++ L0) := by
 refine c_enter (args := [.slice A xs.length c, .int .i32 92, .int .u8 39, .bool false, .bool false]) (k := 140) Tryz.func104 rfl rfl rfl ?_
 refine pS (pG (pM 1 rfl (pL (pT (pS (pS (pG (pM 2 rfl (pP (p_conv rfl (fun w => cv_int (Tryz.underlying5) (Tryz.underlying21) (r := 39) (by decide))) rfl (pP (p_eql rfl rfl) rfl (pM 1 rfl (pN rfl (pP (p_move rfl) rfl (pN rfl (pP (p_eql rfl rfl) rfl (pP (p_pick_f rfl rfl rfl) rfl (pL (pT (zt (pS (pG (pM 1 rfl ?_))))))))))))))))))))));intro a S
 refine l_lit [(.const (.int .u8 92))] S H rfl rfl Tryz.underlying23 sz5 zv5 rfl rfl (by simp [Value.cells]) rfl rfl rfl ?_; clear S a H; intro g4 w a H S
 refine l_ownB [_] (r := [92]) S H rfl rfl rfl hOw (src_lit (vs := ([92]).map (Value.int .u8)) H m0 Tryz.underlying23 (by simp [Value.oneCell'])) Tryz.underlying23 in5 rfl (by simp only [List.length_cons, List.length_nil, List.length_append]; omega) (by decide) rfl rfl rfl ?_; clear S a H; intro Aow5 cow5 ow5 w a how5 H S; replace H := H.tail
 revert a;refine pM 1 rfl (pL (pT (pS (pG (pM 2 rfl (pP (p_conv rfl (fun w => cv_int (Tryz.underlying21) (Tryz.underlying5) (r := 92) (by decide))) rfl ?_))))));intro a S
 refine l_lit [(.tmp 26)] S H rfl rfl Tryz.underlying23 sz5 zv5 rfl rfl (by simp [Value.cells]) rfl rfl rfl ?_; clear S a H; intro g6 w a H S
 refine l_ownB [_] (r := [92]) S H rfl rfl rfl how5 (src_lit (vs := ([92]).map (Value.int .u8)) H m0 Tryz.underlying23 (by simp [Value.oneCell'])) Tryz.underlying23 in5 rfl (by simp only [List.length_cons, List.length_nil, List.length_append]; omega) (by decide) rfl rfl rfl ?_; clear S a H; intro Aow7 cow7 ow7 w a how7 H S; replace H := H.tail
 revert a;refine pM 1 rfl (pL (pT (pS (pG (pM 2 rfl (pL (pT (pZ (pU ?_)))))))))
 have hl : ((xs ++ [92]) ++ [92]) = xs ++ [92, 92] := by simp [ints]
 intro a S
 rw [hl] at S how7
 exact r_ret1 S rfl rfl ⟨_, _, ow7, rfl, how7, H⟩
theorem esc34_ (wb w0 : World) (B : Nat) (L0 : List (Nat × Obj)) (E : List (Nat × Obj)) (A : Option Addr) (c : Nat) (xs : List Int) (hOw : OwnB 5 (.slice A xs.length c) xs E) (H : HH B wb w0 (E ++ L0)) (hx : xs.length ≤ 100000) : Calls Tryz.prog 104 #[.slice A xs.length c, .int .i32 34, .int .u8 39, .bool false, .bool false] w0 fun e w' => ∃ A' c' E', e = .returned (.slice A' (xs ++ [34]).length c') ∧ OwnB 5 (.slice A' (xs ++ [34]).length c') (xs ++ [34]) E' ∧ HH B wb w' (E' ++ L0) := by
 refine c_enter (args := [.slice A xs.length c, .int .i32 34, .int .u8 39, .bool false, .bool false]) (k := 140) Tryz.func104 rfl rfl rfl ?_
 refine pS (pG (pM 1 rfl (pL (pT (pS (pS (pG (pM 2 rfl (pP (p_conv rfl (fun w => cv_int (Tryz.underlying5) (Tryz.underlying21) (r := 39) (by decide))) rfl (pP (p_eql rfl rfl) rfl (pM 1 rfl (pN rfl (pP (p_move rfl) rfl (pN rfl (pP (p_eql rfl rfl) rfl (pP (p_pick_f rfl rfl rfl) rfl (pL (pT (zf (pK (pT (pS (pS (pG (pM 1 rfl (pL (pT (zf (pS (pG (pM 1 rfl ?_)))))))))))))))))))))))))))))));intro a S
 refine l_call S rfl rfl Tryz.func105 rfl rfl (isPrint_ _ 34 (by decide) (by decide)) rfl rfl rfl ?_
 rintro e w ⟨rfl, hb⟩
 refine ⟨_, rfl, ?_⟩;clear S a
 replace H := H.later hb; clear hb
 intro a S
 rw [show decide ((32 : Int) ≤ 34) = true by decide] at S
 revert a;refine pM 1 rfl (pO rfl rfl (pO rfl rfl ?_));intro a S
 refine l_offU S rfl rfl rfl rfl rfl rfl ?_; clear S a; intro a S
 refine l_offU S rfl rfl rfl rfl rfl rfl ?_; clear S a; intro a S
 revert a;refine pO rfl rfl (pP (p_pick_t rfl rfl rfl) rfl (pL (pT (zt (pS (pG (pM 2 rfl ?_)))))))
 have hcon := appRune_ wb _ B L0 E A c xs 34 (by decide) hOw H hx
 refine pC Tryz.func107 hcon ?_
 rintro e w ⟨A1, c1, E1, rfl, hOw1, hH⟩
 refine ⟨_, rfl, ?_⟩
 clear H hcon; have H := hH; clear hH
 refine pM 1 rfl (pL (pT (pZ (pU ?_))))
 have hl : (xs ++ [((34 : Nat) : Int)]) = xs ++ [34] := by simp [ints]
 intro a S
 rw [hl] at S hOw1
 exact r_ret1 S rfl rfl ⟨_, _, E1, rfl, hOw1, H⟩
theorem esc10_ (wb w0 : World) (B : Nat) (L0 : List (Nat × Obj)) (E : List (Nat × Obj)) (A : Option Addr) (c : Nat) (xs : List Int) (hOw : OwnB 5 (.slice A xs.length c) xs E) (H : HH B wb w0 (E ++ L0)) (hx : xs.length ≤ 100000) : Calls Tryz.prog 104 #[.slice A xs.length c, .int .i32 10, .int .u8 39, .bool false, .bool false] w0 fun e w' => ∃ A' c' E', e = .returned (.slice A' (xs ++ [92, 110]).length c') ∧ OwnB 5 (.slice A' (xs ++ [92, 110]).length c') (xs ++ [92, 110]) E' ∧ HH B wb w' (E' ++ L0) := by
 refine c_enter (args := [.slice A xs.length c, .int .i32 10, .int .u8 39, .bool false, .bool false]) (k := 140) Tryz.func104 rfl rfl rfl ?_
 refine pS (pG (pM 1 rfl (pL (pT (pS (pS (pG (pM 2 rfl (pP (p_conv rfl (fun w => cv_int (Tryz.underlying5) (Tryz.underlying21) (r := 39) (by decide))) rfl (pP (p_eql rfl rfl) rfl (pM 1 rfl (pN rfl (pP (p_move rfl) rfl (pN rfl (pP (p_eql rfl rfl) rfl (pP (p_pick_f rfl rfl rfl) rfl (pL (pT (zf (pK (pT (pS (pS (pG (pM 1 rfl (pL (pT (zf (pS (pG (pM 1 rfl ?_)))))))))))))))))))))))))))))));intro a S
 refine l_call S rfl rfl Tryz.func105 rfl rfl (isPrint_ _ 10 (by decide) (by decide)) rfl rfl rfl ?_
 rintro e w ⟨rfl, hb⟩
 refine ⟨_, rfl, ?_⟩;clear S a
 replace H := H.later hb; clear hb
 intro a S
 rw [show decide ((32 : Int) ≤ 10) = false by decide] at S
 revert a;refine pM 1 rfl (pN rfl (pP (p_move rfl) rfl (pN rfl (pP (p_move rfl) rfl (pO rfl rfl (pO rfl rfl (pN rfl (pP (p_pick_f rfl rfl rfl) rfl (pP (p_pick_f rfl rfl rfl) rfl (pL (pT (zf (pK (pT (pS (pS (pG (pM 1 rfl (pL (pT (pB (pS (pG (pP (p_eql rfl rfl) rfl (pM 1 rfl (pL (pT (zf (pS (pG (pP (p_eql rfl rfl) rfl (pM 1 rfl (pL (pT (zf (pS (pG (pP (p_eql rfl rfl) rfl (pM 1 rfl (pL (pT (zf (pS (pG (pP (p_eql rfl rfl) rfl (pM 1 rfl (pL (pT (zt (pG (pM 1 rfl ?_)))))))))))))))))))))))))))))))))))))))))))))))))));intro a S
 refine l_ownB [] (r := (ints ⟨#[92, 110]⟩)) S H rfl rfl rfl hOw (src_str Tryz.underlying9 ⟨#[92, 110]⟩) Tryz.underlying23 in5 rfl (by rw [ints_len]; first | (simp [ByteArray.size]; omega) | omega) (by decide) rfl rfl rfl ?_; clear S a H; intro Aow18 cow18 ow18 w a how18 H S
 revert a;refine pM 1 rfl (pL (pI 0 (pT (pS (pG (pM 2 rfl (pL (pT (pZ ?_)))))))))
 have hl : (xs ++ (ints ⟨#[92, 110]⟩)) = xs ++ [92, 110] := by simp [ints]
 intro a S
 rw [hl] at S how18
 exact r_ret1 S rfl rfl ⟨_, _, ow18, rfl, how18, H⟩
theorem esc13_ (wb w0 : World) (B : Nat) (L0 : List (Nat × Obj)) (E : List (Nat × Obj)) (A : Option Addr) (c : Nat) (xs : List Int) (hOw : OwnB 5 (.slice A xs.length c) xs E) (H : HH B wb w0 (E ++ L0)) (hx : xs.length ≤ 100000) : Calls Tryz.prog 104 #[.slice A xs.length c, .int .i32 13, .int .u8 39, .bool false, .bool false] w0 fun e w' => ∃ A' c' E', e = .returned (.slice A' (xs ++ [92, 114]).length c') ∧ OwnB 5 (.slice A' (xs ++ [92, 114]).length c') (xs ++ [92, 114]) E' ∧ HH B wb w' (E' ++ L0) := by
 refine c_enter (args := [.slice A xs.length c, .int .i32 13, .int .u8 39, .bool false, .bool false]) (k := 140) Tryz.func104 rfl rfl rfl ?_
 refine pS (pG (pM 1 rfl (pL (pT (pS (pS (pG (pM 2 rfl (pP (p_conv rfl (fun w => cv_int (Tryz.underlying5) (Tryz.underlying21) (r := 39) (by decide))) rfl (pP (p_eql rfl rfl) rfl (pM 1 rfl (pN rfl (pP (p_move rfl) rfl (pN rfl (pP (p_eql rfl rfl) rfl (pP (p_pick_f rfl rfl rfl) rfl (pL (pT (zf (pK (pT (pS (pS (pG (pM 1 rfl (pL (pT (zf (pS (pG (pM 1 rfl ?_)))))))))))))))))))))))))))))));intro a S
 refine l_call S rfl rfl Tryz.func105 rfl rfl (isPrint_ _ 13 (by decide) (by decide)) rfl rfl rfl ?_
 rintro e w ⟨rfl, hb⟩
 refine ⟨_, rfl, ?_⟩;clear S a
 replace H := H.later hb; clear hb
 intro a S
 rw [show decide ((32 : Int) ≤ 13) = false by decide] at S
 revert a;refine pM 1 rfl (pN rfl (pP (p_move rfl) rfl (pN rfl (pP (p_move rfl) rfl (pO rfl rfl (pO rfl rfl (pN rfl (pP (p_pick_f rfl rfl rfl) rfl (pP (p_pick_f rfl rfl rfl) rfl (pL (pT (zf (pK (pT (pS (pS (pG (pM 1 rfl (pL (pT (pB (pS (pG (pP (p_eql rfl rfl) rfl (pM 1 rfl (pL (pT (zf (pS (pG (pP (p_eql rfl rfl) rfl (pM 1 rfl (pL (pT (zf (pS (pG (pP (p_eql rfl rfl) rfl (pM 1 rfl (pL (pT (zf (pS (pG (pP (p_eql rfl rfl) rfl (pM 1 rfl (pL (pT (zf (pS (pG (pP (p_eql rfl rfl) rfl (pM 1 rfl (pL (pT (zt (pG (pM 1 rfl ?_))))))))))))))))))))))))))))))))))))))))))))))))))))))))));intro a S
 refine l_ownB [] (r := (ints ⟨#[92, 114]⟩)) S H rfl rfl rfl hOw (src_str Tryz.underlying9 ⟨#[92, 114]⟩) Tryz.underlying23 in5 rfl (by rw [ints_len]; first | (simp [ByteArray.size]; omega) | omega) (by decide) rfl rfl rfl ?_; clear S a H; intro Aow20 cow20 ow20 w a how20 H S
 revert a;refine pM 1 rfl (pL (pI 0 (pT (pS (pG (pM 2 rfl (pL (pT (pZ ?_)))))))))
 have hl : (xs ++ (ints ⟨#[92, 114]⟩)) = xs ++ [92, 114] := by simp [ints]
 intro a S
 rw [hl] at S how20
 exact r_ret1 S rfl rfl ⟨_, _, ow20, rfl, how20, H⟩
theorem esc9_ (wb w0 : World) (B : Nat) (L0 : List (Nat × Obj)) (E : List (Nat × Obj)) (A : Option Addr) (c : Nat) (xs : List Int) (hOw : OwnB 5 (.slice A xs.length c) xs E) (H : HH B wb w0 (E ++ L0)) (hx : xs.length ≤ 100000) : Calls Tryz.prog 104 #[.slice A xs.length c, .int .i32 9, .int .u8 39, .bool false, .bool false] w0 fun e w' => ∃ A' c' E', e = .returned (.slice A' (xs ++ [92, 116]).length c') ∧ OwnB 5 (.slice A' (xs ++ [92, 116]).length c') (xs ++ [92, 116]) E' ∧ HH B wb w' (E' ++ L0) := by
 refine c_enter (args := [.slice A xs.length c, .int .i32 9, .int .u8 39, .bool false, .bool false]) (k := 140) Tryz.func104 rfl rfl rfl ?_
 refine pS (pG (pM 1 rfl (pL (pT (pS (pS (pG (pM 2 rfl (pP (p_conv rfl (fun w => cv_int (Tryz.underlying5) (Tryz.underlying21) (r := 39) (by decide))) rfl (pP (p_eql rfl rfl) rfl (pM 1 rfl (pN rfl (pP (p_move rfl) rfl (pN rfl (pP (p_eql rfl rfl) rfl (pP (p_pick_f rfl rfl rfl) rfl (pL (pT (zf (pK (pT (pS (pS (pG (pM 1 rfl (pL (pT (zf (pS (pG (pM 1 rfl ?_)))))))))))))))))))))))))))))));intro a S
 refine l_call S rfl rfl Tryz.func105 rfl rfl (isPrint_ _ 9 (by decide) (by decide)) rfl rfl rfl ?_
 rintro e w ⟨rfl, hb⟩
 refine ⟨_, rfl, ?_⟩;clear S a
 replace H := H.later hb; clear hb
 intro a S
 rw [show decide ((32 : Int) ≤ 9) = false by decide] at S
 revert a;refine pM 1 rfl (pN rfl (pP (p_move rfl) rfl (pN rfl (pP (p_move rfl) rfl (pO rfl rfl (pO rfl rfl (pN rfl (pP (p_pick_f rfl rfl rfl) rfl (pP (p_pick_f rfl rfl rfl) rfl (pL (pT (zf (pK (pT (pS (pS (pG (pM 1 rfl (pL (pT (pB (pS (pG (pP (p_eql rfl rfl) rfl (pM 1 rfl (pL (pT (zf (pS (pG (pP (p_eql rfl rfl) rfl (pM 1 rfl (pL (pT (zf (pS (pG (pP (p_eql rfl rfl) rfl (pM 1 rfl (pL (pT (zf (pS (pG (pP (p_eql rfl rfl) rfl (pM 1 rfl (pL (pT (zf (pS (pG (pP (p_eql rfl rfl) rfl (pM 1 rfl (pL (pT (zf (pS (pG (pP (p_eql rfl rfl) rfl (pM 1 rfl (pL (pT (zt (pG (pM 1 rfl ?_)))))))))))))))))))))))))))))))))))))))))))))))))))))))))))))))));intro a S
 refine l_ownB [] (r := (ints ⟨#[92, 116]⟩)) S H rfl rfl rfl hOw (src_str Tryz.underlying9 ⟨#[92, 116]⟩) Tryz.underlying23 in5 rfl (by rw [ints_len]; first | (simp [ByteArray.size]; omega) | omega) (by decide) rfl rfl rfl ?_; clear S a H; intro Aow22 cow22 ow22 w a how22 H S
 revert a;refine pM 1 rfl (pL (pI 0 (pT (pS (pG (pM 2 rfl (pL (pT (pZ ?_)))))))))
 have hl : (xs ++ (ints ⟨#[92, 116]⟩)) = xs ++ [92, 116] := by simp [ints]
 intro a S
 rw [hl] at S how22
 exact r_ret1 S rfl rfl ⟨_, _, ow22, rfl, how22, H⟩
theorem esc_ (wb w0 : World) (B : Nat) (L0 : List (Nat × Obj)) (E : List (Nat × Obj)) (A : Option Addr) (c : Nat) (xs : List Int) (r : Nat) (hr : EscOk r) (hOw : OwnB 5 (.slice A xs.length c) xs E) (H : HH B wb w0 (E ++ L0)) (hx : xs.length ≤ 100000) : Calls Tryz.prog 104 #[.slice A xs.length c, .int .i32 (r : Int), .int .u8 39, .bool false, .bool false] w0 fun e w' => ∃ A' c' E', e = .returned (.slice A' (xs ++ escT r).length c') ∧ OwnB 5 (.slice A' (xs ++ escT r).length c') (xs ++ escT r) E' ∧ HH B wb w' (E' ++ L0) := by
 rcases hr with rfl | rfl | rfl | rfl | rfl | rfl | rfl | rfl
 ·
  exact esc32_ wb w0 B L0 E A c xs hOw H hx
 ·
  exact esc44_ wb w0 B L0 E A c xs hOw H hx
 ·
  exact esc61_ wb w0 B L0 E A c xs hOw H hx
 ·
  exact esc92_ wb w0 B L0 E A c xs hOw H hx
 ·
  exact esc34_ wb w0 B L0 E A c xs hOw H hx
 ·
  exact esc10_ wb w0 B L0 E A c xs hOw H hx
 ·
  exact esc13_ wb w0 B L0 E A c xs hOw H hx
 exact esc9_ wb w0 B L0 E A c xs hOw H hx
theorem appQuoted_ (wb w0 : World) (B : Nat) (L0 : List (Nat × Obj)) (r : Nat) (hr : EscOk r) (H : HH B wb w0 L0) : Calls Tryz.prog 101 #[.slice none 0 0, .int .i32 (r : Int), .int .u8 39, .bool false, .bool false] w0 fun e w' => ∃ A' c' E', e = .returned (.slice A' ([39] ++ escT r ++ [39]).length c') ∧ OwnB 5 (.slice A' ([39] ++ escT r ++ [39]).length c') ([39] ++ escT r ++ [39]) E' ∧ HH B wb w' (E' ++ L0) := by
 have H : HH B wb w0 (([] : List (Nat × Obj)) ++ L0) := H
 refine c_enter (args := [.slice none 0 0, .int .i32 (r : Int), .int .u8 39, .bool false, .bool false]) (k := 24) Tryz.func101 rfl rfl rfl ?_
 refine pS (pG (pM 1 rfl (pL (pT (pS (pG (pM 2 rfl ?_)))))));intro a S
 refine l_lit [(.tmp 12)] S H rfl rfl Tryz.underlying23 sz5 zv5 rfl rfl (by simp [Value.cells]) rfl rfl rfl ?_; clear S a H; intro g1 w a H S
 refine l_ownB [_] (r := [39]) S H rfl rfl rfl (ownB_nil 5) (src_lit (vs := ([39]).map (Value.int .u8)) H m0 Tryz.underlying23 (by simp [Value.oneCell'])) Tryz.underlying23 in5 rfl (by simp only [List.length_cons, List.length_nil, List.length_append]; omega) (by decide) rfl rfl rfl ?_; clear S a H; intro Aow2 cow2 ow2 w a how2 H S; replace H := H.tail
 revert a;refine pM 1 rfl (pL (pT (pS (pS (pG (pM 1 rfl ?_))))));intro a S
 refine l_call S rfl rfl Tryz.func103 rfl rfl (vrune_ _ (r : Int) (by omega) (by have := hr.lt; omega)) rfl rfl rfl ?_
 rintro e w ⟨rfl, hb⟩
 refine ⟨_, rfl, ?_⟩;clear S a
 replace H := H.later hb; clear hb
 refine pP (p_not rfl) rfl (pL (pT (zf (pK (pT (pS (pG (pM 5 rfl ?_))))))))
 have hcon := esc_ wb _ B L0 ow2 Aow2 cow2 (([] : List Int) ++ [39]) r hr how2 H (by simp)
 refine pC Tryz.func104 hcon ?_
 rintro e w ⟨A1, c1, E1, rfl, hOw1, hH⟩
 refine ⟨_, rfl, ?_⟩
 clear H hcon; have H := hH; clear hH
 have hel := escT_len r
 refine pM 1 rfl (pL (pT (pS (pG (pM 2 rfl ?_)))));intro a S
 refine l_lit [(.tmp 25)] S H rfl rfl Tryz.underlying23 sz5 zv5 rfl rfl (by simp [Value.cells]) rfl rfl rfl ?_; clear S a H; intro g8 w a H S
 refine l_ownB [_] (r := [39]) S H rfl rfl rfl hOw1 (src_lit (vs := ([39]).map (Value.int .u8)) H m0 Tryz.underlying23 (by simp [Value.oneCell'])) Tryz.underlying23 in5 rfl (by simp only [List.length_cons, List.length_nil, List.length_append]; omega) (by decide) rfl rfl rfl ?_; clear S a H; intro Aow9 cow9 ow9 w a how9 H S; replace H := H.tail
 revert a;refine pM 1 rfl (pL (pT (pS (pG (pM 2 rfl (pL (pT (pZ ?_))))))))
 have hl : (((([] : List Int) ++ [39]) ++ escT r) ++ [39]) = [39] ++ escT r ++ [39] := by simp
 intro a S
 rw [hl] at S how9
 exact r_ret1 S rfl rfl ⟨_, _, ow9, rfl, how9, H⟩
theorem quoteWith_ (wb w0 : World) (B : Nat) (L0 : List (Nat × Obj)) (r : Nat) (hr : EscOk r) (H : HH B wb w0 L0) : Calls Tryz.prog 99 #[.int .i32 (r : Int), .int .u8 39, .bool false, .bool false] w0 fun e w' => e = .returned (.string (strOfNums ([39] ++ escT r ++ [39]))) ∧ HH B wb w' L0 := by
 refine c_enter (args := [.int .i32 (r : Int), .int .u8 39, .bool false, .bool false]) (k := 11) Tryz.func99 rfl rfl rfl ?_
 refine pS (pG (pM 1 rfl (pL (pT (pS (pG (pM 4 rfl ?_)))))))
 have hcon := appQuoted_ wb _ B L0 r hr H
 refine pC Tryz.func101 hcon ?_
 rintro e w ⟨A1, c1, E1, rfl, hOw1, hH⟩
 refine ⟨_, rfl, ?_⟩
 clear H hcon; have H := hH; clear hH
 have hel := escT_len r
 intro a S
 refine l_str S rfl rfl Tryz.underlying23 Tryz.underlying5 Tryz.underlying9 (Own.bytes hOw1 H (by simp; omega)) rfl rfl rfl ?_; clear S a; intro a S
 revert a;refine pM 1 rfl (pL (pT (pZ ?_)));intro a S
 exact r_ret1 S rfl rfl ⟨rfl, H.bring⟩
theorem quoteRune_ (wb w0 : World) (B : Nat) (L0 : List (Nat × Obj)) (r : Nat) (hr : EscOk r) (H : HH B wb w0 L0) : Calls Tryz.prog 93 #[.int .i32 (r : Int)] w0 fun e w' => e = .returned (.string (strOfNums ([39] ++ escT r ++ [39]))) ∧ HH B wb w' L0 := by
 refine c_enter (args := [.int .i32 (r : Int)]) (k := 4) Tryz.func93 rfl rfl rfl ?_
 refine pS (pG (pM 1 rfl (pL (pT (pS (pG (pM 1 rfl ?_)))))))
 have hcon := quoteWith_ wb _ B L0 r hr H
 refine pC Tryz.func99 hcon ?_
 rintro e w ⟨rfl, hH⟩
 refine ⟨_, rfl, ?_⟩
 clear H hcon; have H := hH; clear hH
 refine pM 1 rfl (pL (pT (pZ ?_)));intro a S
 exact r_ret1 S rfl rfl ⟨rfl, H⟩
end ga
end Go.Proofs.YtbahngfpadjbhaaGreatDoor.dec
end
section
namespace Go.Proofs.YtbahngfpadjbhaaGreatDoor.dec
open Go.Proofs.YtbahngfpadjbhaaGreatDoor.fx
open Go.RowKit Go.Proofs.HHW Go.Proofs.YtbahngfpadjbhaaGreatDoorW.PrintWords
namespace gb
open ga (escT_len)
theorem fa96_0 (w : World) (g o : Nat) : (Instr.fieldAt 96 (.pointer (some ⟨g, o, none⟩)) 0).run Tryz.prog w = .ok (.pointer (some ⟨g, o + 0, none⟩)) w := by kernel_rfl
theorem fa96_2 (w : World) (g o : Nat) : (Instr.fieldAt 96 (.pointer (some ⟨g, o, none⟩)) 2).run Tryz.prog w = .ok (.pointer (some ⟨g, o + 512, none⟩)) w := by kernel_rfl
theorem zvE : zvB Tryz.prog 96 = some (.agg (escB (fun _ => 0) (fun _ => 0) ⟨#[]⟩)) := by kernel_rfl
theorem trim_q {r : Nat} (h : EscOk r) : (if ga.hp (strOfNums (escT r)) ⟨#[92]⟩ then (strOfNums (escT r)).extract (ByteArray.size ⟨#[92]⟩) (strOfNums (escT r)).size else strOfNums (escT r)) = strOfNums [(eT r : Int)] := by
 rcases h with rfl | rfl | rfl | rfl | rfl | rfl | rfl | rfl <;> decide +kernel
set_option maxRecDepth 20000 in
theorem newE_ (wb w0 : World) (B : Nat) (L0 : List (Nat × Obj)) (s : ByteArray) (hs : s.size ≤ 1000) (hall : ∀ i, i < s.size → ∃ r : Nat, HHW.bt s (i : Int) = (r : Int) ∧ EscOk r) (H : HH B wb w0 L0) : Calls Tryz.prog 81 #[.string s] w0 fun e w' => ∃ g, e = .returned (.pointer (some ⟨g, 0, none⟩)) ∧ HH B wb w' ((g, .cells (escB (tabF (ints s)) (tabH (ints s)) s) 96 (0, 0)) :: L0) := by
 refine c_enter (args := [.string s]) (k := 34) Tryz.func81 rfl rfl rfl ?_
 refine pS (pG (pM 1 rfl (pL (pT (pS (pG ?_))))));intro a S
 refine l_alloc (cs := escB (fun _ => 0) (fun _ => 0) ⟨#[]⟩) S H rfl (fun w => al zvE) rfl rfl rfl ?_; clear S a H; intro ge w a H S
 revert a;refine pL (pT (pS (pS (pG (pM 1 rfl ?_)))));intro a S
 refine l_rangeS S H rfl rfl Tryz.underlying9 rfl rfl rfl ?_; clear S a H; intro it w a H S
 revert a;refine pL (pT (pB ?_));intro a S
 refine c_loop (σ := Nat) (fun s_ a w => match s_ with | i => SL a 35 [] [(0, .string s), (3, .pointer (some ⟨ge, 0, none⟩)), (8, .pointer (some ⟨it, 0, none⟩))] ∧ HH (B) wb w ((it, .stringIter s i) :: (ge, (.cells (escB (tabF ((ints s).take i)) (tabH ((ints s).take i)) ⟨#[]⟩) 96 (0, 0))) :: L0) ∧ (i ≤ s.size)) (fun s_ => match s_ with | i => s.size - i) 0 ⟨S.only ⟨rfl, rfl, rfl, trivial⟩, H, Nat.zero_le _⟩ ?_
 clear S a H; rintro i a w ⟨S, H, hinv⟩
 revert a;refine pS (pG ?_)
 rcases Nat.lt_or_ge i s.size with hi | hi
 ·
  obtain ⟨r, hr, hok⟩ := hall i hi
  have hrl := hok.lt
  have hel := escT_len r
  have hetl := eT_lt hok
  intro a S
  refine l_nextS S H rfl rfl hi (by omega) rfl rfl rfl ?_; clear S a H; intro w a H S
  rw [hr] at S
  revert a;refine pM 1 rfl (pL (pT (pS (zt (pK (pT (pB (pS (pG (pM 2 rfl (pL (pT (pS (pG (pM 1 rfl ?_)))))))))))))))
  have hcon := ga.quoteRune_ wb _ B _ r hok H
  refine pC Tryz.func93 hcon ?_
  rintro e w ⟨rfl, hH⟩
  refine ⟨_, rfl, ?_⟩
  clear H hcon; have H := hH; clear hH
  have hsz : (strOfNums ([39] ++ escT r ++ [39])).size = (escT r).length + 2 := by rw [nums_size]; simp
  refine pM 1 rfl (pL (pT (pS (pG (pM 2 rfl (pP (p_lens Tryz.underlying9 rfl) rfl (pP (p_sub (r := (((escT r).length + 1 : Nat) : Int)) rfl rfl ((IntWalk.i64_in _ (by omega)).trans (by omega))) rfl (pP (p_slice rfl (o_some rfl) (o_some rfl) (fun _ _ => o_none) (fun w => sl_strN (m := 1) (m' := (escT r).length + 1) Tryz.underlying9 rfl rfl (by omega) (by omega))) rfl ?_))))))));intro a S
  rw [cut_q hok] at S
  revert a;refine pM 1 rfl (pL (pT (pS (pG (pM 1 rfl ?_)))));intro a S
  refine l_call S rfl rfl Tryz.func94 rfl rfl (ga.trim_ _ (strOfNums (escT r)) ⟨#[92]⟩ (by rw [nums_size]; omega) (by decide)) rfl rfl rfl ?_
  rintro e w ⟨rfl, hb⟩
  refine ⟨_, rfl, ?_⟩;clear S a
  replace H := H.later hb; clear hb
  intro a S
  rw [trim_q hok] at S
  revert a;refine pM 1 rfl (pL (pT (pS (pG (pM 1 rfl (pP (p_conv rfl (fun w => cv_int (Tryz.underlying21) (Tryz.underlying5) (r := (r : Int)) (by rw [IntKind.wrap_u8]; omega))) rfl (pM 1 rfl (pP (p_index rfl rfl (fun w => ix_string Tryz.underlying9 (by omega) (by rw [nums_size]; simp))) rfl ?_))))))));intro a S
  rw [bt_e hok] at S
  revert a;refine pA fa96_0 rfl rfl rfl (pP (p_indexAddr rfl rfl (fun w => ia_array Tryz.underlying94 sz5 (by omega) (by omega))) rfl (pE H rfl rfl rfl (.there .here) (by rw [escB_size]; omega) sz5 ?_));clear H;intro w H
  have e0 : 0 + (r : Int).toNat * 1 = r := by omega
  rw [e0, escB_setf _ _ _ (by omega)] at H
  refine pL (pT (pG (pM 1 rfl (pP (p_index rfl rfl (fun w => ix_string Tryz.underlying9 (by omega) (by rw [nums_size]; simp))) rfl ?_))));intro a S
  rw [bt_e hok] at S
  revert a;refine pM 1 rfl (pP (p_conv rfl (fun w => cv_int (Tryz.underlying21) (Tryz.underlying5) (r := (r : Int)) (by rw [IntKind.wrap_u8]; omega))) rfl (pA fa96_1 rfl rfl rfl (pP (p_indexAddr rfl rfl (fun w => ia_array Tryz.underlying94 sz5 (by omega) (by omega))) rfl (pE H rfl rfl rfl (.there .here) (by rw [escB_size]; omega) sz5 ?_))));clear H;intro w H
  have e0 : 256 + (eT r : Int).toNat * 1 = 256 + eT r := by omega
  rw [e0, escB_seth _ _ _ hetl] at H
  have htb : escB (fun k => if k = r then eT r else (tabF ((ints s).take i)) k) (fun k => if k = eT r then r else (tabH ((ints s).take i)) k) ⟨#[]⟩ = escB (tabF ((ints s).take (i + 1))) (tabH ((ints s).take (i + 1))) ⟨#[]⟩ := by rw [take_ints hi, hr, tabF_snoc, tabH_snoc]; simp only [Int.toNat_natCast]
  rw [htb] at H
  refine pL (pI 1 (pT ?_));intro a S
  exact ⟨(i + 1), ⟨S.only ⟨rfl, rfl, rfl, trivial⟩, H, by omega⟩, (show s.size - (i + 1) < s.size - i from by omega)⟩
 intro a S
 refine l_nextE S H rfl rfl (by omega) rfl rfl rfl ?_; clear S a; intro a S
 revert a;refine pM 1 rfl (pL (pT (pS (zf (pX (pV (pV (pW (pT (pS (pG (pM 1 rfl (pA fa96_2 rfl rfl rfl (pE H rfl rfl rfl (.there .here) (by rw [escB_size]; decide) sz9 ?_))))))))))))));clear H;intro w H
 rw [show (0 + 512 : Nat) = 512 from rfl, escB_sets] at H
 refine pL (pT (pS (pG (pM 1 rfl (pL (pT (pZ ?_)))))))
 have hts : (ints s).take i = ints s := List.take_of_length_le (by rw [ints_len]; omega)
 rw [hts] at H
 intro a S
 exact r_ret1 S rfl rfl ⟨ge, rfl, H.tail⟩
theorem e0_ (wb w0 : World) (B : Nat) (L0 : List (Nat × Obj)) (H : HH B wb w0 L0) : Calls Tryz.prog 47 #[] w0 fun e w' => ∃ g, e = .returned (.pointer (some ⟨g, 0, none⟩)) ∧ HH B wb w' ((g, .cells (escB (tabF (ints (escS 0))) (tabH (ints (escS 0))) (escS 0)) 96 (0, 0)) :: L0) := by
 refine c_enter (args := []) (k := 2) Tryz.func47 rfl rfl rfl ?_
 refine pS (pG (pM 1 rfl (pL (pT (pS (pG ?_))))))
 have hcon := newE_ wb _ B _ (escS 0) (by decide) (all_ok (by decide +kernel)) H
 refine pC Tryz.func81 hcon ?_
 rintro e w ⟨q, rfl, hH⟩
 refine ⟨_, rfl, ?_⟩
 clear H hcon; have H := hH; clear hH
 refine pM 1 rfl (pL (pT (pZ ?_)));intro a S
 exact r_ret1 S rfl rfl ⟨q, rfl, H⟩
theorem e1_ (wb w0 : World) (B : Nat) (L0 : List (Nat × Obj)) (H : HH B wb w0 L0) : Calls Tryz.prog 54 #[] w0 fun e w' => ∃ g, e = .returned (.pointer (some ⟨g, 0, none⟩)) ∧ HH B wb w' ((g, .cells (escB (tabF (ints (escS 1))) (tabH (ints (escS 1))) (escS 1)) 96 (0, 0)) :: L0) := by
 refine c_enter (args := []) (k := 2) Tryz.func54 rfl rfl rfl ?_
 refine pS (pG (pM 1 rfl (pL (pT (pS (pG ?_))))))
 have hcon := newE_ wb _ B _ (escS 1) (by decide) (all_ok (by decide +kernel)) H
 refine pC Tryz.func81 hcon ?_
 rintro e w ⟨q, rfl, hH⟩
 refine ⟨_, rfl, ?_⟩
 clear H hcon; have H := hH; clear hH
 refine pM 1 rfl (pL (pT (pZ ?_)));intro a S
 exact r_ret1 S rfl rfl ⟨q, rfl, H⟩
theorem e2_ (wb w0 : World) (B : Nat) (L0 : List (Nat × Obj)) (H : HH B wb w0 L0) : Calls Tryz.prog 56 #[] w0 fun e w' => ∃ g, e = .returned (.pointer (some ⟨g, 0, none⟩)) ∧ HH B wb w' ((g, .cells (escB (tabF (ints (escS 2))) (tabH (ints (escS 2))) (escS 2)) 96 (0, 0)) :: L0) := by
 refine c_enter (args := []) (k := 2) Tryz.func56 rfl rfl rfl ?_
 refine pS (pG (pM 1 rfl (pL (pT (pS (pG ?_))))))
 have hcon := newE_ wb _ B _ (escS 2) (by decide) (all_ok (by decide +kernel)) H
 refine pC Tryz.func81 hcon ?_
 rintro e w ⟨q, rfl, hH⟩
 refine ⟨_, rfl, ?_⟩
 clear H hcon; have H := hH; clear hH
 refine pM 1 rfl (pL (pT (pZ ?_)));intro a S
 exact r_ret1 S rfl rfl ⟨q, rfl, H⟩
theorem e3_ (wb w0 : World) (B : Nat) (L0 : List (Nat × Obj)) (H : HH B wb w0 L0) : Calls Tryz.prog 58 #[] w0 fun e w' => ∃ g, e = .returned (.pointer (some ⟨g, 0, none⟩)) ∧ HH B wb w' ((g, .cells (escB (tabF (ints (escS 3))) (tabH (ints (escS 3))) (escS 3)) 96 (0, 0)) :: L0) := by
 refine c_enter (args := []) (k := 2) Tryz.func58 rfl rfl rfl ?_
 refine pS (pG (pM 1 rfl (pL (pT (pS (pG ?_))))))
 have hcon := e1_ wb _ B _ H
 refine pC Tryz.func54 hcon ?_
 rintro e w ⟨q, rfl, hH⟩
 refine ⟨_, rfl, ?_⟩
 clear H hcon; have H := hH; clear hH
 refine pM 1 rfl (pL (pT (pZ ?_)));intro a S
 exact r_ret1 S rfl rfl ⟨q, rfl, H⟩
theorem e4_ (wb w0 : World) (B : Nat) (L0 : List (Nat × Obj)) (H : HH B wb w0 L0) : Calls Tryz.prog 60 #[] w0 fun e w' => ∃ g, e = .returned (.pointer (some ⟨g, 0, none⟩)) ∧ HH B wb w' ((g, .cells (escB (tabF (ints (escS 4))) (tabH (ints (escS 4))) (escS 4)) 96 (0, 0)) :: L0) := by
 refine c_enter (args := []) (k := 2) Tryz.func60 rfl rfl rfl ?_
 refine pS (pG (pM 1 rfl (pL (pT (pS (pG ?_))))))
 have hcon := newE_ wb _ B _ (escS 4) (by decide) (all_ok (by decide +kernel)) H
 refine pC Tryz.func81 hcon ?_
 rintro e w ⟨q, rfl, hH⟩
 refine ⟨_, rfl, ?_⟩
 clear H hcon; have H := hH; clear hH
 refine pM 1 rfl (pL (pT (pZ ?_)));intro a S
 exact r_ret1 S rfl rfl ⟨q, rfl, H⟩
end gb
end Go.Proofs.YtbahngfpadjbhaaGreatDoor.dec
end
section
namespace Go.Proofs.YtbahngfpadjbhaaGreatDoor.dec
open Go.Proofs.YtbahngfpadjbhaaGreatDoor.fx
open Go.RowKit Go.Proofs.HHW Go.Proofs.YtbahngfpadjbhaaGreatDoorW.PrintWords
namespace mk
theorem bldR (s : ByteArray) (A : Option Addr) (n c : Nat) : Tryz.prog.built 84 [(0, .string s), (1, .slice A n c), (3, .bool false)] = some #[.string s, .slice A n c, .int .i64 0, .bool false] := by kernel_rfl
theorem mkI (w : World) (gr : Nat) : (Instr.makeInterface 48 (.pointer (some ⟨gr, 0, none⟩))).run Tryz.prog w = .ok (.iface 48 (.pointer (some ⟨gr, 0, none⟩))) w := by kernel_rfl
theorem bldD (gr ge : Nat) : Tryz.prog.built 58 [(0, .iface 48 (.pointer (some ⟨gr, 0, none⟩))), (7, .slice (some ⟨ge, 0, none⟩) 0 512), (5, .int .u8 5), (8, .int .i64 1)] = some #[.iface 48 (.pointer (some ⟨gr, 0, none⟩)), .slice none 0 0, .int .i64 0, .int .i64 0, .bool false, .int .u8 5, .bool false, .slice (some ⟨ge, 0, none⟩) 0 512, .int .i64 1, .nilIface] := by kernel_rfl
theorem bldB (A : Option Addr) (n c ge : Nat) : Tryz.prog.built 58 [(1, .slice A n c), (4, .bool true), (7, .slice (some ⟨ge, 0, none⟩) 0 512), (5, .int .u8 5), (8, .int .i64 1)] = some #[.nilIface, .slice A n c, .int .i64 0, .int .i64 0, .bool true, .int .u8 5, .bool false, .slice (some ⟨ge, 0, none⟩) 0 512, .int .i64 1, .nilIface] := by kernel_rfl
theorem newReader_ (wb w0 : World) (L0 : dc.Bk) (s : ByteArray) (Az : Option Addr) (zs : List Int) (cz : Nat) (H : HH wb.heap.size wb w0 L0) (hC : (Kd.int .i64).C wb Az zs.length zs) (hzc : zs.length ≤ cz) (hz : zs.length ≤ 1000) (hs : s.size ≤ 1000000) : Calls Tryz.prog 19 #[.string s, .slice Az zs.length cz, .bool false] w0 fun e w' => ∃ gr mr M, e = .returned (.pointer (some ⟨gr, 0, none⟩)) ∧ dc.Rdr TY.tr TY.ti wb (.iface TY.ti (.pointer (some ⟨gr, 0, none⟩))) false (ints s) M mr ∧ HH wb.heap.size wb w' (mr ++ L0) := by
 refine c_enter (args := [.string s, .slice Az zs.length cz, .bool false]) (k := 26) Tryz.func19 rfl rfl rfl ?_
 refine pS (pG (pM 1 rfl (pL (pT (pS (pG (pM 1 rfl (pL (pT (pS (pS (pG (pM 1 rfl (pP (p_len Tryz.underlying30 rfl) rfl (pM 1 rfl (pL (pT (pB ?_))))))))))))))))));intro a S
 refine c_loop (σ := Nat × Bool) (fun s_ a w => match s_ with | ⟨j, b⟩ => SL a 29 [] [(0, .string s), (1, .slice Az zs.length cz), (2, .bool false), (7, .bool b), (10, .slice Az zs.length cz), (11, .int .i64 (zs.length : Int)), (12, .int .i64 (j : Int))] ∧ HH (wb.heap.size) wb w L0 ∧ (j ≤ zs.length ∧ b = dc.pos zs j)) (fun s_ => match s_ with | ⟨j, b⟩ => zs.length - j) ⟨0, false⟩ ⟨S.only ⟨rfl, rfl, rfl, rfl, rfl, rfl, rfl, trivial⟩, H, ⟨Nat.zero_le _, rfl⟩⟩ ?_
 clear S a H; rintro ⟨j, b⟩ a w ⟨S, H, hinv⟩
 obtain ⟨hj, hb⟩ := hinv
 revert a;refine pS (pG (pP (p_lss rfl rfl) rfl (pL (pT (pS (zc rfl (fun bc3 => ?_) (fun bc3 => ?_)))))))
 ·
  have c3 := of_decide_eq_true bc3
  refine pK (pT (pS (pB (pS (pG ?_)))))
  obtain ⟨ad, hA⟩ := C_some hC (show j < zs.length by omega)
  refine pP (p_indexAddr (u := .slice (some ad) zs.length cz) (by rw [← hA]; rfl) rfl (fun w => ia_any Tryz.underlying30 sz3 (by omega) (by omega))) rfl (pR H (r_row (i := j) (hA ▸ hC) rfl (by rw [Int.toNat_natCast, Nat.mul_one]) (get_some 0 (by omega)) ag3 rfl) rfl (pM 1 rfl (pL (pT (pG (pM 2 rfl ?_))))));intro a S
  refine l_split (S.of 17 rfl) (fun bc5 => ?_) (fun bc5 => ?_)
  ·
   revert a;refine pO bc5 rfl (pO bc5 rfl (pP (p_pick_t rfl bc5 rfl) rfl (pM 1 rfl (pL (pI 1 (pT (pG (pP (p_add rfl rfl (nat_add (x := j) (y := 1) (by omega))) rfl (pM 1 rfl (pL (pT ?_)))))))))));intro a S
   exact ⟨⟨j + 1, true⟩, ⟨S.only ⟨rfl, rfl, rfl, rfl, rfl, rfl, rfl, trivial⟩, H, ⟨by omega, by rw [dc.pos_succ (by omega), ← hb]; clear hb; simp [*]⟩⟩, (show zs.length - (j + 1) < zs.length - j from by omega)⟩
  revert a;refine pN bc5 (pP (p_move rfl) rfl (pN bc5 (pP (p_gtr rfl rfl) rfl (pP (p_pick_f rfl bc5 rfl) rfl (pM 1 rfl (pL (pI 1 (pT (pG (pP (p_add rfl rfl (nat_add (x := j) (y := 1) (by omega))) rfl (pM 1 rfl (pL (pT ?_)))))))))))));intro a S
  exact ⟨⟨j + 1, decide (zs.getD j 0 > 0)⟩, ⟨S.only ⟨rfl, rfl, rfl, rfl, rfl, rfl, rfl, trivial⟩, H, ⟨by omega, by rw [dc.pos_succ (by omega), ← hb]; clear hb; simp [*]⟩⟩, (show zs.length - (j + 1) < zs.length - j from by omega)⟩
 have c3 := of_decide_eq_false bc3
 refine pX (pV (pV (pW (pT (pS (pS (pG (pM 1 rfl (pP (p_not rfl) rfl (pL (pT (zc rfl (fun bc10 => ?_) (fun bc10 => ?_)))))))))))))
 ·
  have c10 := not_eq_true_ bc10
  refine pG (pM 1 rfl (pL (pT (pS (pG (pM 3 rfl (pP (p_bld (ps := [(0, .tmp 24), (1, .tmp 25), (3, .tmp 26)]) rfl (bldR _ _ _ _)) rfl ?_)))))));intro a S
  refine l_box (cs := #[.string s, .slice none 0 0, .int .i64 0, .bool false]) S H rfl rfl (fun w => bx) rfl rfl rfl ?_; clear S a H; intro gr w a H S
  revert a;refine pM 1 rfl (pL (pT (pZ ?_)));intro a S
  exact r_ret1 S rfl rfl ⟨gr, [(gr, _)], (ints s).length, rfl, .inr ⟨rfl, gr, s, none, [], 0, 0, rfl, rfl, rfl, ⟨rfl, by simp, fun h => absurd h (by simp)⟩, Nat.le_refl _, .inl ⟨rfl, Nat.le_refl _⟩, by rw [ints_len]; omega⟩, H⟩
 have c10 := not_eq_false_ bc10
 refine pK (pT (pS (pG (pM 3 rfl (pP (p_bld (ps := [(0, .tmp 24), (1, .tmp 25), (3, .tmp 26)]) rfl (bldR _ _ _ _)) rfl ?_)))));intro a S
 refine l_box (cs := #[.string s, .slice Az zs.length cz, .int .i64 0, .bool false]) S H rfl rfl (fun w => bx) rfl rfl rfl ?_; clear S a H; intro gr w a H S
 revert a;refine pM 1 rfl (pL (pT (pZ ?_)))
 obtain rfl : j = zs.length := by omega
 have hpos : dc.pos zs zs.length = true := by rw [← hb]; simpa using c10
 obtain ⟨M, hM1, hM2⟩ := dc.start_ (k := (ints s).length) hpos (by rw [ints_len]; exact hs) hz
 intro a S
 exact r_ret1 S rfl rfl ⟨gr, [(gr, _)], M, rfl, .inr ⟨rfl, gr, s, Az, zs, cz, 0, rfl, rfl, rfl, hC, hzc, hM1, hM2⟩, H⟩
theorem newD_ (wb w0 : World) (L0 mr : dc.Bk) (gr M : Nat) (X : List Int) (hrd : dc.Rdr TY.tr TY.ti wb (.iface 48 (.pointer (some ⟨gr, 0, none⟩))) false X M mr) (hX : X.length ≤ 1000000) (H : HH wb.heap.size wb w0 (mr ++ L0)) : Calls Tryz.prog 18 #[.iface 48 (.pointer (some ⟨gr, 0, none⟩))] w0 fun e w' => ∃ g eb me D v cm M, e = .returned (.pointer (some ⟨g, 0, none⟩)) ∧ dc.Dec TY wb g X 0 v cm M 5 false eb 1 .nilIface D ∧ OwnB 5 eb [] me ∧ HH wb.heap.size wb w' (D ++ (me ++ L0)) := by
 refine c_enter (args := [.iface 48 (.pointer (some ⟨gr, 0, none⟩))]) (k := 6) Tryz.func18 rfl rfl rfl ?_
 refine pS (pG (pM 1 rfl (pL (pT (pS (pG (pM 1 rfl ?_)))))));intro a S
 refine l_make (l := 0) (c := 512) S H rfl rfl rfl Tryz.underlying23 in5 (by omega) (by omega) (by omega) rfl rfl rfl ?_; clear S a H; intro ge cse w a hcse H S
 revert a;refine pP (p_bld (ps := [(0, .tmp 3), (7, .tmp 4), (5, .const (.int .u8 5)), (8, .const (.int .i64 1))]) rfl (bldD _ _)) rfl ?_;intro a S
 refine l_box (cs := #[.iface 48 (.pointer (some ⟨gr, 0, none⟩)), .slice none 0 0, .int .i64 0, .int .i64 0, .bool false, .int .u8 5, .bool false, .slice (some ⟨ge, 0, none⟩) 0 512, .int .i64 1, .nilIface]) S H rfl rfl (fun w => bx) rfl rfl rfl ?_; clear S a H; intro g w a H S
 revert a;refine pM 1 rfl (pL (pT (pZ ?_)));intro a S
 exact r_ret1 S rfl rfl ⟨g, _, [(ge, _)], _, 0, false, M, rfl, ⟨_, none, [], 0, 0, [], mr, rfl, ⟨Nat.le_refl _, ⟨fun _ => by omega, .inl ⟨rfl, rfl, rfl⟩⟩⟩, by rw [List.drop_zero]; exact hrd, rfl, Nat.zero_le _, rfl, by omega, Nat.zero_le _⟩, dc.own_new hcse, dc.open_.2 (HH.perm H (List.Perm.cons _ List.perm_middle.symm))⟩
theorem newB_ (wb w0 : World) (L0 mb : dc.Bk) (A : Option Addr) (l : List Int) (c : Nat) (hbuf : dc.Buf TY.te A l c true mb) (hX : l.length ≤ 1000000) (H : HH wb.heap.size wb w0 (mb ++ L0)) : Calls Tryz.prog 17 #[.slice A l.length c] w0 fun e w' => ∃ g eb me D v cm M, e = .returned (.pointer (some ⟨g, 0, none⟩)) ∧ dc.Dec TY wb g l 0 v cm M 5 false eb 1 .nilIface D ∧ OwnB 5 eb [] me ∧ HH wb.heap.size wb w' (D ++ (me ++ L0)) := by
 refine c_enter (args := [.slice A l.length c]) (k := 6) Tryz.func17 rfl rfl rfl ?_
 refine pS (pG (pM 1 rfl (pL (pT (pS (pG (pM 1 rfl ?_)))))));intro a S
 refine l_make (l := 0) (c := 512) S H rfl rfl rfl Tryz.underlying23 in5 (by omega) (by omega) (by omega) rfl rfl rfl ?_; clear S a H; intro ge cse w a hcse H S
 revert a;refine pP (p_bld (ps := [(1, .tmp 3), (4, .const (.bool true)), (7, .tmp 4), (5, .const (.int .u8 5)), (8, .const (.int .i64 1))]) rfl (bldB _ _ _ _)) rfl ?_;intro a S
 refine l_box (cs := #[.nilIface, .slice A l.length c, .int .i64 0, .int .i64 0, .bool true, .int .u8 5, .bool false, .slice (some ⟨ge, 0, none⟩) 0 512, .int .i64 1, .nilIface]) S H rfl rfl (fun w => bx) rfl rfl rfl ?_; clear S a H; intro g w a H S
 revert a;refine pM 1 rfl (pL (pT (pZ ?_)));intro a S
 exact r_ret1 S rfl rfl ⟨g, _, [(ge, _)], _, l.length, true, 0, rfl, ⟨_, A, l, c, 0, mb, [], rfl, hbuf, .inl ⟨rfl, List.drop_eq_nil_of_le (Nat.le_refl _), rfl⟩, Nat.zero_add _, Nat.le_refl _, (List.take_of_length_le (Nat.le_refl _)).symm, by omega, Nat.zero_le _⟩, dc.own_new hcse, dc.open_.2 (HH.perm H (List.Perm.cons _ List.perm_middle.symm))⟩
theorem decoder_ (wb w0 : World) (L0 : dc.Bk) (s : ByteArray) (Az : Option Addr) (zs : List Int) (cz : Nat) (H : HH wb.heap.size wb w0 L0) (hC : (Kd.int .i64).C wb Az zs.length zs) (hzc : zs.length ≤ cz) (hz : zs.length ≤ 1000) (hs : s.size ≤ 1000000) : Calls Tryz.prog 10 #[.string s, .slice Az zs.length cz, .bool false] w0 fun e w' => ∃ g eb me D v cm M, e = .returned (.pointer (some ⟨g, 0, none⟩)) ∧ dc.Dec TY wb g (ints s) 0 v cm M 5 false eb 1 .nilIface D ∧ OwnB 5 eb [] me ∧ HH wb.heap.size wb w' (D ++ (me ++ L0)) := by
 refine c_enter (args := [.string s, .slice Az zs.length cz, .bool false]) (k := 16) Tryz.func10 rfl rfl rfl ?_
 refine pS (pG (pM 1 rfl (pL (pT (pS (pS (pG (pM 1 rfl (pP (p_len Tryz.underlying30 rfl) rfl (pP (p_eql rfl rfl) rfl (pL (pT (zc rfl (fun bc2 => ?_) (fun bc2 => ?_))))))))))))))
 ·
  have c2 := eq_of_beq bc2
  refine pS (pG (pM 1 rfl ?_));intro a S
  refine l_bytesOwn (s := s) S H rfl rfl Tryz.underlying9 Tryz.underlying23 Tryz.underlying5 rfl rfl rfl ?_; clear S a H; intro v_ ow3 w a how3 H S
  rw [← ints_len s] at how3
  obtain ⟨Aow3, cow3, rfl, _⟩ := how3.slice
  have hcon := newB_ wb _ L0 _ _ (ints s) _ (dc.Buf.ofOwn how3) (by rw [ints_len]; exact hs) H
  revert a;refine pC Tryz.func17 hcon ?_
  rintro e w ⟨g, eb, me, D, v, cm, M, rfl, hD, hme, hH⟩
  refine ⟨_, rfl, ?_⟩
  refine pM 1 rfl (pL (pT (pZ (pU ?_))));intro a S
  exact r_ret1 S rfl rfl ⟨g, eb, me, D, v, cm, M, rfl, hD, hme, hH⟩
 have c2 := ne_of_beq_false bc2
 refine pK (pT (pS (pG (pM 3 rfl ?_))))
 have hcon := newReader_ wb _ L0 s Az zs cz H hC hzc hz hs
 refine pC Tryz.func19 hcon ?_
 rintro e w ⟨gr, mr, Mr, rfl, hrd, hH⟩
 refine ⟨_, rfl, ?_⟩
 clear H hcon; have H := hH; clear hH
 refine pP (p_iface rfl (fun w => mkI w _)) rfl ?_
 have hcon := newD_ wb _ L0 mr gr Mr (ints s) hrd (by rw [ints_len]; exact hs) H
 refine pC Tryz.func18 hcon ?_
 rintro e w ⟨g, eb, me, D, v, cm, M, rfl, hD, hme, hH⟩
 refine ⟨_, rfl, ?_⟩
 refine pM 1 rfl (pL (pT (pZ ?_)));intro a S
 exact r_ret1 S rfl rfl ⟨g, eb, me, D, v, cm, M, rfl, hD, hme, hH⟩
end mk
end Go.Proofs.YtbahngfpadjbhaaGreatDoor.dec
end
