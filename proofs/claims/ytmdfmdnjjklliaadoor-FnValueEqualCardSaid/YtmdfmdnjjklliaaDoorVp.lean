/- Values of a line, plainly: which can be made, and when two are equal. -/
import Derived.Test.YtmdfmdnjjklliaaDoorFl
import Derived.Test.YtmdfmdnjjklliaaDoorUp
namespace Go.Proofs.YtmdfmdnjjklliaaDoor.vp
open Go.RowKit Go.Proofs.HHW Go.Proofs.YtmdfmdnjjklliaaDoorW.PrintWords
set_option linter.unusedVariables false
set_option linter.unusedSimpArgs false
def can (k : Int) (s : ByteArray) (f : Nat) : Bool := if k = 1 then up.V s 0 else if k = 4 then fl.fin f else (k == 2 || k == 3 || k == 5)
def pS (k : Int) (s : ByteArray) : ByteArray := if k = 1 then s else ⟨#[]⟩
def pN (k n : Int) : Int := if k = 2 then n else 0
def pU (k n : Int) : Int := if k = 3 then n else 0
def pF (k : Int) (n : Nat) : Nat := if k = 4 then n else 0
def pB (k : Int) (b : Bool) : Bool := if k = 5 then b else false
def Rel (k : Int) (s : ByteArray) (n u : Int) (f : Nat) (b : Bool) (N : Int) (l : List Int) (K : Int) : Prop :=
  (k = 1 ∧ N = 0 ∧ l = ints s ∧ K = 0) ∨ (k = 2 ∧ N = IntKind.u64.wrap n ∧ l = [] ∧ K = 2) ∨ (k = 3 ∧ N = u ∧ l = [] ∧ K = 3) ∨ (k = 4 ∧ N = (f : Int) ∧ l = [] ∧ K = 4) ∨ (k = 5 ∧ N = (if b = true then 1 else 0) ∧ l = [] ∧ K = 5)
def kd (K : Int) : Int := if K = 0 then 1 else K
def eqv (N1 : Int) (l1 : List Int) (K1 N2 : Int) (l2 : List Int) (K2 : Int) : Bool :=
  if kd K2 = kd K1 then (if kd K1 = 4 then fl.eq N1.toNat N2.toNat else (N1 == N2 && (strOfNums l1).toList == (strOfNums l2).toList)) else false
def peq (k1 : Int) (s1 : ByteArray) (n1 u1 : Int) (f1 : Nat) (b1 : Bool) (k2 : Int) (s2 : ByteArray) (n2 u2 : Int) (f2 : Nat) (b2 : Bool) : Bool :=
  (k1 == k2 && (pS k1 s1 == pS k2 s2 && (pN k1 n1 == pN k2 n2 && (pU k1 u1 == pU k2 u2 && (Op.floatEq .f64 (pF k1 f1) (pF k2 f2) && pB k1 b1 == pB k2 b2)))))
theorem kd4 {K : Int} (h : kd K = 4) : K = 4 := by
  unfold kd at h
  split at h
  · omega
  · exact h
theorem nums_ints (s : ByteArray) : strOfNums (ints s) = s := by
  have h : (strOfNums (ints s)).data.toList = s.data.toList := by
    rw [strOfNums_data]
    unfold ints
    rw [List.map_map]
    conv => rhs; rw [← List.map_id s.data.toList]
    apply List.map_congr_left
    intro b _
    simp
  have h2 : (strOfNums (ints s)).data = s.data := Array.toList_inj.1 h
  cases s
  cases hh : strOfNums (ints _)
  rw [hh] at h2
  simp only at h2
  rw [h2]
theorem ba_beq (a b : ByteArray) : (a == b) = (a.data == b.data) := by cases a; cases b; rfl
theorem list_beq (a b : ByteArray) : (a.toList == b.toList) = (a == b) := by
  rw [ba_beq, ByteArray.toList_eq, ByteArray.toList_eq]
  by_cases h : a.data = b.data
  · rw [h, beq_self_eq_true, beq_self_eq_true]
  · rw [beq_eq_false_iff_ne.2 h, beq_eq_false_iff_ne]
    exact fun e => h (Array.toList_inj.1 e)
theorem emp : ((⟨#[]⟩ : ByteArray) == ⟨#[]⟩) = true := by rw [ba_beq]; rfl
theorem feq00 : Op.floatEq .f64 0 0 = true := by decide
theorem key {k1 : Int} {s1 : ByteArray} {n1 u1 : Int} {f1 : Nat} {b1 : Bool} {N1 : Int} {l1 : List Int} {K1 : Int} {k2 : Int} {s2 : ByteArray} {n2 u2 : Int} {f2 : Nat} {b2 : Bool} {N2 : Int} {l2 : List Int} {K2 : Int}
    (h1 : Rel k1 s1 n1 u1 f1 b1 N1 l1 K1) (h2 : Rel k2 s2 n2 u2 f2 b2 N2 l2 K2) (r1 : -9223372036854775808 ≤ n1 ∧ n1 ≤ 9223372036854775807) (r2 : -9223372036854775808 ≤ n2 ∧ n2 ≤ 9223372036854775807) :
    eqv N1 l1 K1 N2 l2 K2 = peq k1 s1 n1 u1 f1 b1 k2 s2 n2 u2 f2 b2 := by
  have e0 : (strOfNums []).toList = (strOfNums []).toList := rfl
  rcases h1 with ⟨rfl, rfl, rfl, rfl⟩ | ⟨rfl, rfl, rfl, rfl⟩ | ⟨rfl, rfl, rfl, rfl⟩ | ⟨rfl, rfl, rfl, rfl⟩ | ⟨rfl, rfl, rfl, rfl⟩ <;>
  rcases h2 with ⟨rfl, rfl, rfl, rfl⟩ | ⟨rfl, rfl, rfl, rfl⟩ | ⟨rfl, rfl, rfl, rfl⟩ | ⟨rfl, rfl, rfl, rfl⟩ | ⟨rfl, rfl, rfl, rfl⟩
  all_goals try (simp [eqv, peq, kd]; done)
  · simp [eqv, peq, kd, pS, pN, pU, pF, pB, nums_ints, list_beq, feq00]
  · simp [eqv, peq, kd, pS, pN, pU, pF, pB, feq00, emp]
    by_cases h : n1 = n2
    · subst h; simp [emp]
    · rw [beq_eq_false_iff_ne.2 h, beq_eq_false_iff_ne]
      rw [IntKind.wrap_u64, IntKind.wrap_u64]
      omega
  · simp [eqv, peq, kd, pS, pN, pU, pF, pB, feq00, emp]
  · simp [eqv, peq, kd, pS, pN, pU, pF, pB]
    rfl
  · simp [eqv, peq, kd, pS, pN, pU, pF, pB, feq00, emp]
    cases b1 <;> cases b2 <;> rfl
end Go.Proofs.YtmdfmdnjjklliaaDoor.vp
