/- Part of the proof that FnDecodeCRLF answers true at every text, in every world that its card's statement admits; no condition beyond those. -/
import Derived.Test.YtbahngfpadjbhaaGreatDoorR01
import Derived.Laws.Sem
import Derived.Laws.BytesString
import Derived.Deep.AppendSrc
import Derived.Lib.ConvBytes
set_option linter.unusedVariables false
set_option linter.unusedSimpArgs false
section
namespace Go.Proofs.YtbahngfpadjbhaaGreatDoorW.PrintLast
open Go.Proofs.YtbahngfpadjbhaaGreatDoorW.PrintWords (Aside0)
section
variable {md : Region.Mode} {ops : Array Oper} {T : Bool × List (List Nat × List Nat)} {l l' li lj lk : Array Bool} {ds : List Nat} {i j k : Nat}
theorem gd (l : Array Bool) (j : Nat) (b : Bool) : l.getD j b = l.toList.getD j b := by simp [Array.getD_eq_getD_getElem?, List.getD_eq_getElem?_getD]
end
end Go.Proofs.YtbahngfpadjbhaaGreatDoorW.PrintLast
end
section
namespace Go.Proofs.HHW
open Go.RowKit
def slot : List (Nat × Value) → Nat → Option Value
 | [], _ => none
 | (k, v) :: r, i => match Nat.beq k i with
  | true => some v
  | false => slot r i
structure SL (a : Act) (n : Nat) (ds : List Deferred) (F : List (Nat × Value)) : Prop where
 size : a.tmps.size = n
 defers : a.defers = ds
 at_ : ∀ i v, slot F i = some v → a.tmps[i]? = some v
def ev (F : List (Nat × Value)) : Operand → Option Value
 | .tmp t => slot F t
 | .const v => some v
 | .global g => some (.pointer (some ⟨g, 0, none⟩))
 | .func f => some (.func (.func f) #[] #[])
def evs (F : List (Nat × Value)) : List Operand → Option (List Value)
 | [] => some []
 | x :: r => match ev F x, evs F r with
  | some v, some vs => some (v :: vs)
  | _, _ => none
def Agree (F : List (Nat × Value)) (ρ : Operand → Value) : Prop := ∀ x v, ev F x = some v → ρ x = v
theorem SL.agree {a : Act} {n : Nat} {ds : List Deferred} {F : List (Nat × Value)} (S : SL a n ds F) : Agree F a.eval := by
 intro x v h
 cases x with
 | tmp t =>
  have := S.at_ t v h
  simp [Act.eval, this]
 | const u => simpa [ev, Act.eval] using h
 | global g => simpa [ev, Act.eval] using h
 | func f => simpa [ev, Act.eval] using h
theorem Agree.list {F : List (Nat × Value)} {ρ : Operand → Value} (A : Agree F ρ) : ∀ {l : List Operand} {vs : List Value}, evs F l = some vs → l.map ρ = vs
 | [], vs, h => by simp [evs] at h; simp [h]
 | x :: r, vs, h => by
  simp only [evs] at h
  split at h
  ·
   rename_i v us h1 h2
   injection h with h
   subst h
   simp [A x v h1, Agree.list A h2]
  ·
   cases h
theorem SL.put {a : Act} {n : Nat} {ds : List Deferred} {F : List (Nat × Value)} (S : SL a n ds F) {d : Nat} (hn : Nat.blt d n = true) (v : Value) : SL (a.put (some d) v) n ds ((d, v) :: F) := by
 have hd : d < n := by simpa using hn
 refine ⟨by simp [Act.put, S.size], S.defers, fun i u h => ?_⟩
 simp only [slot] at h
 cases hb : Nat.beq d i with
 | true =>
  rw [hb] at h
  have : d = i := Nat.eq_of_beq_eq_true hb
  subst this
  injection h with h
  subst h
  simp [Act.put, S.size, hd]
 | false =>
  rw [hb] at h
  have hne : d ≠ i := Nat.ne_of_beq_eq_false hb
  have := S.at_ i u h
  simp [Act.put, Array.getElem?_setIfInBounds_ne hne, this]
theorem SL.of {a : Act} {n : Nat} {ds : List Deferred} {F : List (Nat × Value)} (S : SL a n ds F) (i : Nat) {v : Value} (h : slot F i = some v) : slot F i = some v := h
def enum : Nat → List Value → List (Nat × Value)
 | _, [] => []
 | i, v :: r => (i, v) :: enum (i + 1) r
theorem slot_enum : ∀ (l : List Value) (i j : Nat) (v : Value), slot (enum i l) j = some v → i ≤ j ∧ l[j - i]? = some v
 | [], _, _, _, h => by simp [enum, slot] at h
 | u :: r, i, j, v, h => by
  simp only [enum, slot] at h
  cases hb : Nat.beq i j with
  | true =>
   rw [hb] at h
   have : i = j := Nat.eq_of_beq_eq_true hb
   subst this
   injection h with h
   subst h
   exact ⟨Nat.le_refl _, by simp⟩
  | false =>
   rw [hb] at h
   have hne : i ≠ j := Nat.ne_of_beq_eq_false hb
   obtain ⟨h1, h2⟩ := slot_enum r (i + 1) j v h
   refine ⟨by omega, ?_⟩
   rw [show j - i = (j - (i + 1)) + 1 by omega]
   simpa using h2
theorem SL.enter {args : Array Value} {k n : Nat} {F : List (Nat × Value)} (hF : enum 0 args.toList = F) (hk : args.size + k = n) : SL { tmps := args ++ Array.replicate k undef, defers := [] } n [] F := by
 subst hF
 refine ⟨by simp [hk], rfl, fun i v h => ?_⟩
 obtain ⟨_, h2⟩ := slot_enum _ _ _ _ h
 simp at h2
 have hi : i < args.size := (Array.getElem?_eq_some_iff.1 h2).1
 show (args ++ Array.replicate k undef)[i]? = some v
 rw [Array.getElem?_append_left hi, h2]
theorem SL.weaken {a : Act} {n : Nat} {ds : List Deferred} {F F' : List (Nat × Value)} (S : SL a n ds F) (h : ∀ i v, slot F' i = some v → slot F i = some v) : SL a n ds F' := ⟨S.size, S.defers, fun i v hi => S.at_ i v (h i v hi)⟩
def allIn (F : List (Nat × Value)) : List (Nat × Value) → Prop
 | [] => True
 | (k, v) :: r => slot F k = some v ∧ allIn F r
theorem SL.only {a : Act} {n : Nat} {ds : List Deferred} {F F' : List (Nat × Value)} (S : SL a n ds F) (h : allIn F F') : SL a n ds F' := by
 refine S.weaken ?_
 induction F' with
 | nil => intro i v hi; simp [slot] at hi
 | cons p r ih =>
  intro i v hi
  simp only [slot] at hi
  cases hb : Nat.beq p.1 i with
  | true =>
   rw [hb] at hi
   have : p.1 = i := Nat.eq_of_beq_eq_true hb
   subst this
   injection hi with hi
   subst hi
   exact h.1
  | false =>
   rw [hb] at hi
   exact ih h.2 i v hi
section
variable {P : Program} {F : List (Nat × Value)} {B : Nat} {w0 : World} {L : List (Nat × Obj)}
def Reads (P : Program) (F : List (Nat × Value)) (B : Nat) (w0 : World) (L : List (Nat × Obj)) (op : Op) (v : Value) : Prop :=
 ∀ (ρ : Operand → Value), Agree F ρ → ∀ (o : Oper), o.op = op → ∀ w, HH B w0 w L → (execOp ρ o).run P w = .ok (.value v) w
def Pure (P : Program) (F : List (Nat × Value)) (op : Op) (v : Value) : Prop :=
 ∀ (ρ : Operand → Value), Agree F ρ → ∀ (o : Oper), o.op = op → ∀ w, (execOp ρ o).run P w = .ok (.value v) w
theorem Pure.reads {op : Op} {v : Value} (h : Pure P F op v) : Reads P F B w0 L op v := fun ρ A o ho w _ => h ρ A o ho w
theorem run_v {s : Sem Value} {v : Value} {w w1 : World} (h : s.run P w = .ok v w1) : (do pure (Next.value (← s)) : Sem Next).run P w = .ok (.value v) w1 := by
 show (s >>= fun x => pure (Next.value x)).run P w = _
 rw [Sem.run_bind, h]
 rfl
theorem p_move {x : Operand} {v : Value} (hx : ev F x = some v) : Pure P F (.move x) v := by
 intro ρ A o ho w
 unfold execOp
 simp only [ho]
 rw [A x v hx]
 rfl
theorem p_assign {x : Operand} {v : Value} (hx : ev F x = some v) : Pure P F (.assign x) v := by
 intro ρ A o ho w
 unfold execOp
 simp only [ho]
 rw [A x v hx]
 rfl
theorem p_pick_t {x y z : Operand} {b : Bool} {v : Value} (hx : ev F x = some (.bool b)) (hb : b = true) (hy : ev F y = some v) : Pure P F (.pick x y z) v := by
 intro ρ A o ho w
 subst hb
 unfold execOp
 simp only [ho]
 rw [A x _ hx, A y _ hy]
 rfl
theorem p_pick_f {x y z : Operand} {b : Bool} {v : Value} (hx : ev F x = some (.bool b)) (hb : b = false) (hy : ev F z = some v) : Pure P F (.pick x y z) v := by
 intro ρ A o ho w
 subst hb
 unfold execOp
 simp only [ho]
 rw [A x _ hx, A z _ hy]
 rfl
theorem p_int {op : BinOp} {t t' : TypeId} {x y : Operand} {k : IntKind} {m n : Int} {v : Value} (hx : ev F x = some (.int k m)) (hy : ev F y = some (.int k n))
  (h : ∀ w, (binOp op t (.int k m) (.int k n)).run P w = .ok v w) : Pure P F (.binOp op t x y t') v := by
 intro ρ A o ho w
 unfold execOp
 simp only [ho]
 rw [A x _ hx, A y _ hy]
 refine run_v ?_
 have he : (eqGuard op t x y (.int k m) (.int k n)).run P w = .ok () w := by
  unfold eqGuard
  cases op <;> rfl
 show ((eqGuard op t x y (.int k m) (.int k n)) >>= fun _ => binOp op t (.int k m) (.int k n)).run P w = _
 rw [Sem.run_bind, he]
 exact h w
theorem p_add {t t' : TypeId} {x y : Operand} {k : IntKind} {m n r : Int} (hx : ev F x = some (.int k m)) (hy : ev F y = some (.int k n)) (hr : k.wrap (m + n) = r) : Pure P F (.binOp .add t x y t') (.int k r) :=
 p_int hx hy fun w => by subst hr; simp [binOp, Op.intArith]
theorem p_sub {t t' : TypeId} {x y : Operand} {k : IntKind} {m n r : Int} (hx : ev F x = some (.int k m)) (hy : ev F y = some (.int k n)) (hr : k.wrap (m - n) = r) : Pure P F (.binOp .sub t x y t') (.int k r) :=
 p_int hx hy fun w => by subst hr; simp [binOp, Op.intArith]
theorem p_mul {t t' : TypeId} {x y : Operand} {k : IntKind} {m n r : Int} (hx : ev F x = some (.int k m)) (hy : ev F y = some (.int k n)) (hr : k.wrap (m * n) = r) : Pure P F (.binOp .mul t x y t') (.int k r) :=
 p_int hx hy fun w => by subst hr; simp [binOp, Op.intArith]
theorem p_rem {t t' : TypeId} {x y : Operand} {k : IntKind} {m n r : Int} (hx : ev F x = some (.int k m)) (hy : ev F y = some (.int k n)) (hn : n ≠ 0) (hr : m.tmod n = r) : Pure P F (.binOp .rem t x y t') (.int k r) :=
 p_int hx hy fun w => by subst hr; simp [binOp, Op.intDiv, hn]
theorem p_and {t t' : TypeId} {x y : Operand} {k : IntKind} {m n r : Int} (hx : ev F x = some (.int k m)) (hy : ev F y = some (.int k n)) (hr : k.wrap (BitVec.ofInt k.bits m &&& BitVec.ofInt k.bits n).toNat = r) : Pure P F (.binOp .and t x y t') (.int k r) :=
 p_int hx hy fun w => by subst hr; simp [binOp, Op.intBits]
theorem p_or {t t' : TypeId} {x y : Operand} {k : IntKind} {m n r : Int} (hx : ev F x = some (.int k m)) (hy : ev F y = some (.int k n)) (hr : k.wrap (BitVec.ofInt k.bits m ||| BitVec.ofInt k.bits n).toNat = r) : Pure P F (.binOp .or t x y t') (.int k r) :=
 p_int hx hy fun w => by subst hr; simp [binOp, Op.intBits]
theorem p_shl {t t' : TypeId} {x y : Operand} {k k' : IntKind} {m n r : Int} (hx : ev F x = some (.int k m)) (hy : ev F y = some (.int k' n)) (hn : 0 ≤ n) (hr : k.wrap (m * 2 ^ (min n.toNat k.bits)) = r) : Pure P F (.binOp .shl t x y t') (.int k r) := by
 intro ρ A o ho w
 unfold execOp
 simp only [ho]
 rw [A x _ hx, A y _ hy]
 refine run_v ?_
 show ((eqGuard .shl t x y (.int k m) (.int k' n)) >>= fun _ => binOp .shl t (.int k m) (.int k' n)).run P w = _
 rw [Sem.run_bind, show (eqGuard .shl t x y (.int k m) (.int k' n)).run P w = .ok () w from rfl]
 subst hr
 show (Op.shift .shl k m k' n).run P w = _
 simp [Op.shift, show ¬ n < 0 by omega]
theorem p_shr {t t' : TypeId} {x y : Operand} {k k' : IntKind} {m n r : Int} (hx : ev F x = some (.int k m)) (hy : ev F y = some (.int k' n)) (hn : 0 ≤ n) (hr : m.fdiv (2 ^ (min n.toNat k.bits)) = r) : Pure P F (.binOp .shr t x y t') (.int k r) := by
 intro ρ A o ho w
 unfold execOp
 simp only [ho]
 rw [A x _ hx, A y _ hy]
 refine run_v ?_
 show ((eqGuard .shr t x y (.int k m) (.int k' n)) >>= fun _ => binOp .shr t (.int k m) (.int k' n)).run P w = _
 rw [Sem.run_bind, show (eqGuard .shr t x y (.int k m) (.int k' n)).run P w = .ok () w from rfl]
 subst hr
 show (Op.shift .shr k m k' n).run P w = _
 simp [Op.shift, show ¬ n < 0 by omega]
theorem p_lss {t t' : TypeId} {x y : Operand} {k : IntKind} {m n : Int} (hx : ev F x = some (.int k m)) (hy : ev F y = some (.int k n)) : Pure P F (.binOp .lss t x y t') (.bool (decide (m < n))) :=
 p_int hx hy fun w => by simp [binOp, Op.intCmp]
theorem p_leq {t t' : TypeId} {x y : Operand} {k : IntKind} {m n : Int} (hx : ev F x = some (.int k m)) (hy : ev F y = some (.int k n)) : Pure P F (.binOp .leq t x y t') (.bool (decide (m ≤ n))) :=
 p_int hx hy fun w => by simp [binOp, Op.intCmp]
theorem p_gtr {t t' : TypeId} {x y : Operand} {k : IntKind} {m n : Int} (hx : ev F x = some (.int k m)) (hy : ev F y = some (.int k n)) : Pure P F (.binOp .gtr t x y t') (.bool (decide (m > n))) :=
 p_int hx hy fun w => by simp [binOp, Op.intCmp]
theorem p_geq {t t' : TypeId} {x y : Operand} {k : IntKind} {m n : Int} (hx : ev F x = some (.int k m)) (hy : ev F y = some (.int k n)) : Pure P F (.binOp .geq t x y t') (.bool (decide (m ≥ n))) :=
 p_int hx hy fun w => by simp [binOp, Op.intCmp]
theorem p_eql {t t' : TypeId} {x y : Operand} {k : IntKind} {m n : Int} (hx : ev F x = some (.int k m)) (hy : ev F y = some (.int k n)) : Pure P F (.binOp .eql t x y t') (.bool (m == n)) :=
 p_int hx hy fun w => by simp [binOp, Op.intCmp]
theorem p_neq {t t' : TypeId} {x y : Operand} {k : IntKind} {m n : Int} (hx : ev F x = some (.int k m)) (hy : ev F y = some (.int k n)) : Pure P F (.binOp .neq t x y t') (.bool (m != n)) :=
 p_int hx hy fun w => by simp [binOp, Op.intCmp]
theorem p_bin {op : BinOp} {t t' : TypeId} {x y : Operand} {u u' v : Value} (hx : ev F x = some u) (hy : ev F y = some u')
  (he : ∀ w, (eqGuard op t x y u u').run P w = .ok () w) (h : ∀ w, (binOp op t u u').run P w = .ok v w) : Pure P F (.binOp op t x y t') v := by
 intro ρ A o ho w
 unfold execOp
 simp only [ho]
 rw [A x _ hx, A y _ hy]
 refine run_v ?_
 show ((eqGuard op t x y u u') >>= fun _ => binOp op t u u').run P w = _
 rw [Sem.run_bind, he w]
 exact h w
theorem p_not {t : TypeId} {x : Operand} {b : Bool} (hx : ev F x = some (.bool b)) : Pure P F (.unOp .not t x) (.bool (!b)) := by
 intro ρ A o ho w
 unfold execOp
 simp only [ho]
 rw [A x _ hx]
 rfl
theorem p_extract {x : Operand} {i : Nat} {vs : Array Value} {v : Value} (hx : ev F x = some (.tuple vs)) (hv : vs[i]? = some v) : Pure P F (.extract x i) v := by
 intro ρ A o ho w
 unfold execOp
 simp only [ho]
 rw [A x _ hx]
 refine run_v ?_
 simp [Instr.extract, hv]
theorem p_nilCheck {x : Operand} {ad : Addr} (hx : ev F x = some (.pointer (some ad))) : Pure P F (.nilCheck x) (.pointer (some ad)) := by
 intro ρ A o ho w
 unfold execOp
 simp only [ho]
 rw [A x _ hx]
 rfl
theorem p_fieldAddr {s : TypeId} {x : Operand} {i : Nat} {u v : Value} (hx : ev F x = some u) (h : ∀ w, (Instr.fieldAt s u i).run P w = .ok v w) : Pure P F (.fieldAddr s x i) v := by
 intro ρ A o ho w
 unfold execOp
 simp only [ho]
 rw [A x _ hx]
 exact run_v (h w)
theorem p_indexAddr {s : TypeId} {x y : Operand} {u u' v : Value} (hx : ev F x = some u) (hy : ev F y = some u') (h : ∀ w, (Instr.indexAt s u u').run P w = .ok v w) : Pure P F (.indexAddr s x y) v := by
 intro ρ A o ho w
 unfold execOp
 simp only [ho]
 rw [A x _ hx, A y _ hy]
 exact run_v (h w)
theorem p_index {s : TypeId} {x y : Operand} {u u' v : Value} (hx : ev F x = some u) (hy : ev F y = some u') (h : ∀ w, (Instr.index s u u').run P w = .ok v w) : Pure P F (.index s x y) v := by
 intro ρ A o ho w
 unfold execOp
 simp only [ho]
 rw [A x _ hx, A y _ hy]
 exact run_v (h w)
theorem p_conv {s t : TypeId} {x : Operand} {u v : Value} (hx : ev F x = some u) (h : ∀ w, (convert s t u).run P w = .ok v w) : Pure P F (.convert s t x) v := by
 intro ρ A o ho w
 unfold execOp
 simp only [ho]
 rw [A x _ hx]
 exact run_v (h w)
theorem p_iface {t : TypeId} {x : Operand} {u v : Value} (hx : ev F x = some u) (h : ∀ w, (Instr.makeInterface t u).run P w = .ok v w) : Pure P F (.makeInterface t x) v := by
 intro ρ A o ho w
 unfold execOp
 simp only [ho]
 rw [A x _ hx]
 exact run_v (h w)
theorem p_func {fn : Fn} {xs ys : List Operand} {us vs : List Value} (hx : evs F xs = some us) (hy : evs F ys = some vs) : Pure P F (.makeFunc fn xs.toArray ys.toArray) (.func fn us.toArray vs.toArray) := by
 intro ρ A o ho w
 unfold execOp
 simp only [ho]
 rw [List.map_toArray, List.map_toArray, A.list hx, A.list hy]
 rfl
theorem p_slice {t : TypeId} {x : Operand} {lo hi mx : Option Operand} {u v : Value} {l h m : Option Value} (hx : ev F x = some u) (hl : ∀ ρ, Agree F ρ → lo.map ρ = l) (hh : ∀ ρ, Agree F ρ → hi.map ρ = h) (hm : ∀ ρ, Agree F ρ → mx.map ρ = m)
  (hr : ∀ w, (Instr.sliceAt t u l h m).run P w = .ok v w) : Pure P F (.slice t x lo hi mx) v := by
 intro ρ A o ho w
 unfold execOp
 simp only [ho]
 rw [A x _ hx, hl ρ A, hh ρ A, hm ρ A]
 exact run_v (hr w)
theorem o_none {ρ : Operand → Value} : (none : Option Operand).map ρ = none := rfl
theorem o_some {x : Operand} {v : Value} (hx : ev F x = some v) : ∀ ρ, Agree F ρ → (some x).map ρ = some v := fun ρ A => by simp [A x v hx]
theorem p_builtin {b : Builtin} {xs : List Operand} {ts : Array TypeId} {vs : List Value} {v : Value} (hx : evs F xs = some vs)
  (h : ∀ (t : TypeId) (cs : Array Bool) w, (builtin b ts t cs vs.toArray).run P w = .ok (.value v) w) : Pure P F (.call { callee := .builtin b, args := xs.toArray, argTypes := ts }) v := by
 intro ρ A o ho w
 unfold execOp
 simp only [ho, resolve, List.map_toArray, A.list hx]
 exact h _ _ w
theorem r_load {t : TypeId} {x : Operand} {g j : Nat} {cs : Array Value} {tt : TypeId} {f : Nat × Nat} {v : Value} (hx : ev F x = some (.pointer (some ⟨g, j, none⟩))) (hm : (g, Obj.cells cs tt f) ∈ L) (hv : cs[j]? = some v)
  (h : ∀ w, w.cell? ⟨g, j, none⟩ = some v → (Instr.loadAt t (.pointer (some ⟨g, j, none⟩))).run P w = .ok v w) : Reads P F B w0 L (.load t x) v := by
 intro ρ A o ho w H
 unfold execOp
 simp only [ho]
 rw [A x _ hx]
 refine run_v (h w ?_)
 have := H.at_ _ hm
 simp [World.cell?, this, hv]
theorem r_loads {t : TypeId} {x : Operand} {p : Addr} {v : Value} (hx : ev F x = some (.pointer (some p))) (h : ∀ w, HH B w0 w L → (Instr.loadAt t (.pointer (some p))).run P w = .ok v w) : Reads P F B w0 L (.load t x) v := by
 intro ρ A o ho w H
 unfold execOp
 simp only [ho]
 rw [A x _ hx]
 exact run_v (h w H)
theorem r_run {op : Op} {v : Value} (h : ∀ (ρ : Operand → Value), Agree F ρ → ∀ (o : Oper), o.op = op → ∀ w, HH B w0 w L → (execOp ρ o).run P w = .ok (.value v) w) : Reads P F B w0 L op v := h
end
section
variable {P : Program} {ops : Array Oper} {rest : List Oper} {o : Oper} {a : Act} {Q : Exit → Act → World → Prop} {B : Nat} {w0 w : World} {L L' : List (Nat × Obj)} {n d : Nat} {ds : List Deferred} {F : List (Nat × Value)}
theorem l_read {v : Value} (S : SL a n ds F) (H : HH B w0 w L) (hp : Reads P F B w0 L o.op v) (hg : o.guard = none) (hd : o.dst = some d) (hn : Nat.blt d n = true) (h : ∀ a, SL a n ds ((d, v) :: F) → wpList P ops Q rest a w) : wpList P ops Q (o :: rest) a w := by
 refine sv hg (hp _ S.agree o rfl w H) ?_
 rw [hd]
 exact h _ (S.put hn v)
theorem l_pure {v : Value} (S : SL a n ds F) (hp : Pure P F o.op v) (hg : o.guard = none) (hd : o.dst = some d) (hn : Nat.blt d n = true) (h : ∀ a, SL a n ds ((d, v) :: F) → wpList P ops Q rest a w) : wpList P ops Q (o :: rest) a w := by
 refine sv hg (hp _ S.agree o rfl w) ?_
 rw [hd]
 exact h _ (S.put hn v)
theorem l_event {w1 : World} {v : Value} (S : SL a n ds F) (hr : ∀ ρ, Agree F ρ → (execOp ρ o).run P w = .ok (.value v) w1) (hg : o.guard = none) (hd : o.dst = some d) (hn : Nat.blt d n = true) (h : ∀ a, SL a n ds ((d, v) :: F) → wpList P ops Q rest a w1) : wpList P ops Q (o :: rest) a w := by
 refine sv hg (hr _ S.agree) ?_
 rw [hd]
 exact h _ (S.put hn v)
theorem l_skip {w1 : World} (S : SL a n ds F) (hr : ∀ ρ, Agree F ρ → (execOp ρ o).run P w = .ok .skip w1) (hg : o.guard = none) (hd : o.dst = none) (h : ∀ a, SL a n ds F → wpList P ops Q rest a w1) : wpList P ops Q (o :: rest) a w :=
 ss hg (hr _ S.agree) hd (h _ S)
theorem l_alloc {t : TypeId} {cs : Array Value} (S : SL a n ds F) (H : HH B w0 w L) (ho : o.op = .alloc t) (hr : ∀ w : World, (Instr.alloc t true (.tuple #[])).run P w = .ok (.pointer (some ⟨w.heap.size, 0, none⟩)) (w.alloc (.cells cs t (0, 0))))
  (hg : o.guard = none) (hd : o.dst = some d) (hn : Nat.blt d n = true) (h : ∀ g w a, HH B w0 w ((g, .cells cs t (0, 0)) :: L) → SL a n ds ((d, .pointer (some ⟨g, 0, none⟩)) :: F) → wpList P ops Q rest a w) : wpList P ops Q (o :: rest) a w := by
 refine l_event S (v := .pointer (some ⟨w.heap.size, 0, none⟩)) (w1 := w.alloc (.cells cs t (0, 0))) (fun ρ A => ?_) hg hd hn (fun a S' => h _ _ a (H.alloc _) S')
 unfold execOp
 simp only [ho]
 exact run_v (hr w)
theorem l_box {t : TypeId} {x : Operand} {v : Value} {cs : Array Value} (S : SL a n ds F) (H : HH B w0 w L) (ho : o.op = .box t x) (hx : ev F x = some v) (hr : ∀ w : World, (Instr.box t v).run P w = .ok (.pointer (some ⟨w.heap.size, 0, none⟩)) (w.alloc (.cells cs t (0, 0))))
  (hg : o.guard = none) (hd : o.dst = some d) (hn : Nat.blt d n = true) (h : ∀ g w a, HH B w0 w ((g, .cells cs t (0, 0)) :: L) → SL a n ds ((d, .pointer (some ⟨g, 0, none⟩)) :: F) → wpList P ops Q rest a w) : wpList P ops Q (o :: rest) a w := by
 refine l_event S (v := .pointer (some ⟨w.heap.size, 0, none⟩)) (w1 := w.alloc (.cells cs t (0, 0))) (fun ρ A => ?_) hg hd hn (fun a S' => h _ _ a (H.alloc _) S')
 unfold execOp
 simp only [ho]
 rw [A x v hx]
 exact run_v (hr w)
theorem l_store {t : TypeId} {x y : Operand} {g j : Nat} {cs : Array Value} {tt : TypeId} {v : Value} (S : SL a n ds F) (H : HH B w0 w L) (ho : o.op = .store t x y) (hx : ev F x = some (.pointer (some ⟨g, j, none⟩))) (hy : ev F y = some v)
  (hu : Upd L g (.cells cs tt (0, 0)) (.cells (cs.setIfInBounds j v) tt (0, 0)) L') (hj : j < cs.size)
  (hr : ∀ (w : World) u, w.cell? ⟨g, j, none⟩ = some u → w.frozen? ⟨g, j, none⟩ = false → (Instr.storeAt t (.pointer (some ⟨g, j, none⟩)) v).run P w = .ok () (w.setCell ⟨g, j, none⟩ v))
  (hg : o.guard = none) (hd : o.dst = none) (h : ∀ w a, HH B w0 w L' → SL a n ds F → wpList P ops Q rest a w) : wpList P ops Q (o :: rest) a w := by
 refine l_skip S (w1 := w.setCell ⟨g, j, none⟩ v) (fun ρ A => ?_) hg hd (fun a S' => h _ a (H.set hu) S')
 unfold execOp
 simp only [ho]
 rw [A x _ hx, A y _ hy]
 show ((Instr.storeAt t (.pointer (some ⟨g, j, none⟩)) v) >>= fun _ => pure Next.skip).run P w = _
 rw [Sem.run_bind, hr w cs[j] ((H.cell hu j).trans (by simp [hj])) (H.thaw hu j)]
 rfl
theorem l_call {f : FuncId} {fn : Func} {xs : List Operand} {ts : Array TypeId} {vs : List Value} {R : Ending → World → Prop} (S : SL a n ds F) (ho : o.op = .call { callee := .value (.func f), args := xs.toArray, argTypes := ts }) (hx : evs F xs = some vs)
  (hf : P.funcs[f]? = some fn) (hname : (fn.name == "runtime.NumGoroutine") = false) (hb : fn.body.isSome = true)
  (hc : Calls P f vs.toArray w R) (hg : o.guard = none) (hd : o.dst = some d) (hn : Nat.blt d n = true)
  (h : ∀ e w, R e w → ∃ v, e = .returned v ∧ ∀ a, SL a n ds ((d, v) :: F) → wpList P ops Q rest a w) : wpList P ops Q (o :: rest) a w := by
 refine YtbahngfpadjbhaaGreatDoorW.PrintLast.goesL_ (some d) hd hg hf hname hb vs.toArray ho (by rw [List.map_toArray, S.agree.list hx]) (hc.mono ?_)
 intro e w1 hr
 obtain ⟨v, he, hk⟩ := h e w1 hr
 exact ⟨v, he, hk _ (S.put hn v)⟩
theorem l_defer {x : Operand} {xs : List Operand} {ts : Array TypeId} {fn : Fn} {us cs vs : List Value} (S : SL a n ds F) (ho : o.op = .defer { callee := .value x, args := xs.toArray, argTypes := ts }) (hx : ev F x = some (.func fn us.toArray cs.toArray)) (hxs : evs F xs = some vs)
  (hg : o.guard = none) (hd : o.dst = none) (h : ∀ a, SL a n ({ target := .fn fn cs.toArray, args := (us ++ vs).toArray } :: ds) F → wpList P ops Q rest a w) : wpList P ops Q (o :: rest) a w := by
 refine wpList_plain hg fun K hK => ?_
 unfold Oper.wp
 have hr : (execOp a.eval o).run P w = .ok (.defer { target := .fn fn cs.toArray, args := (us ++ vs).toArray }) w := by
  unfold execOp
  simp only [ho, resolve, List.map_toArray, S.agree.list hxs]
  rw [S.agree x _ hx]
  simp [Deferred.ofValue]
 rw [hr, Oper.upon_defer, hd]
 exact hK _ _ (h _ ⟨S.size, by show _ :: a.defers = _; rw [S.defers], S.at_⟩)
theorem l_split {i : Nat} {c : Bool} (hs : slot F i = some (.bool c)) (h1 : c = true → wpList P ops Q rest a w) (h2 : c = false → wpList P ops Q rest a w) : wpList P ops Q rest a w := by
 cases c
 ·
  exact h2 rfl
 ·
  exact h1 rfl
theorem yields_ {oj : Oper} {j dj : Nat} {c b : Bool} (S : SL a n ds F) (hg : o.guard = some (j, b)) (hj : ops[j]? = some oj) (hd : oj.dst = some dj) (hs : slot F dj = some (.bool c)) : Region.wanted o (yielded ops a.tmps) = (c == b) := by
 unfold Region.wanted
 rw [hg]
 simp only [yielded, hj, hd, Option.bind_some, S.at_ dj _ hs]
 cases c <;> cases b <;> rfl
theorem l_on {oj : Oper} {j dj : Nat} {c b : Bool} (S : SL a n ds F) (hg : o.guard = some (j, b)) (hj : ops[j]? = some oj) (hd : oj.dst = some dj) (hs : slot F dj = some (.bool c)) (hc : c = b)
  (h : wpList P ops Q ({ o with guard := none } :: rest) a w) : wpList P ops Q (o :: rest) a w := by
 have hw : Region.wanted o (yielded ops a.tmps) = true := by rw [yields_ S hg hj hd hs, hc]; simp
 have hw2 : Region.wanted { o with guard := none } (yielded ops a.tmps) = true := rfl
 unfold wpList at h ⊢
 rw [if_pos hw2] at h
 rw [if_pos hw]
 exact h
theorem l_off {oj : Oper} {j dj : Nat} {c b : Bool} (S : SL a n ds F) (hg : o.guard = some (j, b)) (hj : ops[j]? = some oj) (hdj : oj.dst = some dj) (hs : slot F dj = some (.bool c)) (hc : c = !b) (hd : o.dst = some d) (hn : Nat.blt d n = true)
  (h : ∀ a, SL a n ds ((d, undef) :: F) → wpList P ops Q rest a w) : wpList P ops Q (o :: rest) a w := by
 have hw : Region.wanted o (yielded ops a.tmps) = false := by rw [yields_ S hg hj hdj hs, hc]; cases b <;> rfl
 unfold wpList
 rw [hw, hd]
 exact h _ (S.put hn undef)
theorem l_off0 {oj : Oper} {j dj : Nat} {c b : Bool} (S : SL a n ds F) (hg : o.guard = some (j, b)) (hj : ops[j]? = some oj) (hdj : oj.dst = some dj) (hs : slot F dj = some (.bool c)) (hc : c = !b) (hd : o.dst = none)
  (h : wpList P ops Q rest a w) : wpList P ops Q (o :: rest) a w := by
 have hw : Region.wanted o (yielded ops a.tmps) = false := by rw [yields_ S hg hj hdj hs, hc]; cases b <;> rfl
 unfold wpList
 rw [hw, hd]
 exact h
theorem l_nil (h : Q .normal a w) : wpList P ops Q [] a w := h
end
section
variable {P : Program} {Q : Exit → Act → World → Prop} {K : Act → World → Prop} {a : Act} {w : World} {n : Nat} {ds : List Deferred} {F : List (Nat × Value)}
theorem e_then (h : K a w) : Exit.then K Q .normal a w := h
theorem e_then_ret (h : Q .ret a w) : Exit.then K Q .ret a w := h
theorem e_then_exit {i : Nat} (h : Q (.exit i) a w) : Exit.then K Q (.exit i) a w := h
theorem e_in (i : Nat) (h : Q .normal a w) : Exit.inBlock i Q .normal a w := h
theorem e_in_ret {i : Nat} (h : Q .ret a w) : Exit.inBlock i Q .ret a w := h
theorem e_in_exit {i : Nat} (h : Q .normal a w) : Exit.inBlock i Q (.exit i) a w := by simpa [Exit.inBlock] using h
theorem e_in_other {i j : Nat} (hij : Nat.beq j i = false) (h : Q (.exit j) a w) : Exit.inBlock i Q (.exit j) a w := by
 have : j ≠ i := Nat.ne_of_beq_eq_false hij
 simpa [Exit.inBlock, this] using h
theorem c_cond {c : Operand} {x y : Code} {b : Bool} (S : SL a n ds F) (hc : ev F c = some (.bool b)) (ht : b = true → x.wp P Q a w) (hf : b = false → y.wp P Q a w) : (Code.cond c x y).wp P Q a w :=
 wp_cond_split (S.agree c _ hc) ht hf
theorem c_region {id : Nat} {l : List Oper} (h : wpList P l.toArray Q l a w) : (Code.region id l.toArray false).wp P Q a w := wp_region_lit h
theorem c_loop {σ : Type} {c : Code} (I : σ → Act → World → Prop) (μ : σ → Nat) (s0 : σ) (h0 : I s0 a w)
  (round : ∀ s a w, I s a w → c.wp P (Exit.then (fun a' w' => ∃ s', I s' a' w' ∧ μ s' < μ s) Q) a w) : (Code.loop c).wp P Q a w := by
 intro b k cs
 have key : ∀ m s a w, μ s = m → I s a w →
   ∃ e a' w', Q e a' w' ∧ Arrives P (lone (b.at a (.code c :: .inLoop c :: k)) cs w) b k cs e a' w' := by
  intro m
  induction m using Nat.strongRecOn with
  | _ m ih =>
   intro s a w hm hI
   obtain ⟨e, a₁, w₁, hq, harr⟩ := round s a w hI b (.inLoop c :: k) cs
   cases e with
   | normal =>
    obtain ⟨s', hI₁, hlt⟩ := hq
    obtain ⟨e₂, a₂, w₂, hq₂, harr₂⟩ := ih (μ s') (hm ▸ hlt) s' a₁ w₁ rfl hI₁
    exact ⟨e₂, a₂, w₂, hq₂, .of_steps (Steps.trans harr (.one step_inLoop)) harr₂⟩
   | exit id => exact ⟨_, a₁, w₁, hq, .pass (x := .inLoop c) rfl (fun _ _ => .inl (by simp)) harr⟩
   | goto l => exact ⟨_, a₁, w₁, hq, .pass (x := .inLoop c) rfl (fun _ _ => .inl (by simp)) harr⟩
   | ret => exact ⟨_, a₁, w₁, hq, .pass (x := .inLoop c) rfl (fun _ _ => .inl (by simp)) harr⟩
   | panic ch => exact ⟨_, a₁, w₁, hq, .pass (x := .inLoop c) rfl (fun _ _ => .inl (by simp)) harr⟩
   | outgrown => exact ⟨_, a₁, w₁, hq, .pass (x := .inLoop c) rfl (fun _ _ => .inl (by simp)) harr⟩
 obtain ⟨e, a', w', hq, harr⟩ := key _ s0 a w rfl h0
 exact ⟨e, a', w', hq, .of_steps (.one step_loop) harr⟩
theorem c_cut {x y : Code} (J : Act → World → Prop) (hy : ∀ a w, J a w → y.wp P Q a w) (hx : x.wp P (Exit.then J Q) a w) : (Code.seq x y).wp P Q a w :=
 wp_seq (wp_mono hx (fun e a w h => by cases e <;> first | exact hy _ _ h | exact h))
theorem c_enter {f : FuncId} {fn : Func} {c : Code} {args : List Value} {k : Nat} {R : Ending → World → Prop} {F0 : List (Nat × Value)} (hf : P.funcs[f]? = some fn) (hb : fn.body = some c) (hk : fn.ntmps = args.length + k) (hF : enum 0 args = F0)
  (h : ∀ a, SL a (args.length + k) [] F0 → c.wp P (bodyPost P fn R) a w) : Calls P f args.toArray w R := by
 refine calls_of_wp hf hb (h _ ?_)
 have : fn.ntmps - args.toArray.size = k := by simp [hk]
 rw [this]
 exact SL.enter (by simpa using hF) (by simp)
theorem c_enter_d {f : FuncId} {fn : Func} {c : Code} {args : List Value} {k : Nat} {R : Ending → World → Prop} {F0 : List (Nat × Value)} (hf : P.funcs[f]? = some fn) (hb : fn.body = some c) (hk : fn.ntmps = args.length + k) (hF : enum 0 args = F0)
  (h : ∀ a, SL a (args.length + k) [] F0 → c.wp P (bodyPostD P fn R) a w) : Calls P f args.toArray w R := by
 refine calls_of_wp_defers hf hb (h _ ?_)
 have : fn.ntmps - args.toArray.size = k := by simp [hk]
 rw [this]
 exact SL.enter (by simpa using hF) (by simp)
theorem r_ret1 {fn : Func} {R : Ending → World → Prop} {t : Tmp} {v : Value} (S : SL a n [] F) (hr : fn.results = #[.tmp t]) (hv : slot F t = some v) (h : R (.returned v) w) : bodyPost P fn R .ret a w := by
 refine ⟨S.defers, v, ?_, h⟩
 rw [results_tmp hr]
 simp [S.at_ t v hv]
theorem r_ret0 {fn : Func} {R : Ending → World → Prop} (S : SL a n [] F) (hr : fn.results = #[]) (h : R (.returned (.tuple #[])) w) : bodyPost P fn R .ret a w := by
 refine ⟨S.defers, _, results_none hr _ _ _, h⟩
theorem r_end0 {fn : Func} {R : Ending → World → Prop} (S : SL a n [] F) (hr : fn.results = #[]) (h : R (.returned (.tuple #[])) w) : bodyPost P fn R .normal a w := by
 refine ⟨S.defers, _, results_none hr _ _ _, h⟩
theorem r_ret2 {fn : Func} {R : Ending → World → Prop} {t t' : Tmp} {v v' : Value} (S : SL a n [] F) (hr : fn.results = #[.tmp t, .tmp t']) (hv : slot F t = some v) (hv' : slot F t' = some v') (h : R (.returned (.tuple #[v, v'])) w) : bodyPost P fn R .ret a w := by
 refine ⟨S.defers, _, ?_, h⟩
 rw [results_tmp2 hr]
 simp [S.at_ t v hv, S.at_ t' v' hv']
theorem r_ret3 {fn : Func} {R : Ending → World → Prop} {t t' t'' : Tmp} {v v' v'' : Value} (S : SL a n [] F) (hr : fn.results = #[.tmp t, .tmp t', .tmp t'']) (hv : slot F t = some v) (hv' : slot F t' = some v') (hv'' : slot F t'' = some v'') (h : R (.returned (.tuple #[v, v', v''])) w) : bodyPost P fn R .ret a w := by
 refine ⟨S.defers, _, ?_, h⟩
 rw [results_tmp3 hr]
 simp [S.at_ t v hv, S.at_ t' v' hv', S.at_ t'' v'' hv'']
theorem r_door {fn : Func} {R : Ending → World → Prop} {f : FuncId} {caps : List Value} {v : Value} (S : SL a n [{ target := .fn (.func f) caps.toArray, args := #[] }] F)
  (hidle : ∀ w, CallsD P f caps.toArray .returning w fun e u w' => e = .returned (.tuple #[]) ∧ u = .returning ∧ w' = w)
  (hrun : ∀ w, (invoke (.fn (.func f) caps.toArray) #[]).run P w = .ok (.enter f caps.toArray) w)
  (hres : ∀ tmps : Array Value, (∀ i v, slot F i = some v → tmps[i]? = some v) → (results fn tmps).run P w = .ok v w) (hR : R (.returned v) w) : bodyPostD P fn R .ret a w := by
 obtain ⟨tmps, dfs⟩ := a
 have hd : dfs = _ := S.defers
 subst hd
 exact door (hidle w) (hrun w) (hres tmps S.at_) hR
theorem invokes {f : FuncId} {fn : Func} {caps : Array Value} (hf : P.funcs[f]? = some fn) (hname : (fn.name == "runtime.NumGoroutine") = false) (hb : fn.body.isSome = true) : ∀ w, (invoke (.fn (.func f) caps) #[]).run P w = .ok (.enter f caps) w := by
 intro w
 have := YtbahngfpadjbhaaGreatDoorW.PrintLast.enters_ hf hname hb caps w
 simpa [invoke] using this
end
end Go.Proofs.HHW
end
section
namespace Go.Proofs.HHW
open Go.RowKit
def aggB (P : Program) (t : TypeId) : Option Bool := match P.underlying t with
 | some (.struct _) => some true
 | some (.array _ _) => some true
 | some _ => some false
 | none => none
def szB (P : Program) (t : TypeId) : Option Nat := (P.info? t).map (·.size)
def zvB (P : Program) (t : TypeId) : Option Value := (P.info? t).bind (·.zero)
section
variable {P : Program} {w : World} {t : TypeId}
theorem run_underlying {d : TypeDesc} (h : P.underlying t = some d) : (underlying t).run P w = .ok d w := by
 unfold underlying
 rw [Sem.run_bind, show (program.run P w) = .ok P w from rfl]
 show ((match P.underlying t with | some d => pure d | none => stuck "no such type") : Sem TypeDesc).run P w = _
 rw [h]
 rfl
theorem run_info {i : TypeInfo} (h : P.info? t = some i) : (typeInfo t).run P w = .ok i w := by
 unfold typeInfo
 rw [Sem.run_bind, show (program.run P w) = .ok P w from rfl]
 show ((match P.info? t with | some d => pure d | none => stuck "no such type") : Sem TypeInfo).run P w = _
 rw [h]
 rfl
theorem run_size {n : Nat} (h : szB P t = some n) : (sizeOf t).run P w = .ok n w := by
 obtain ⟨i, hi, rfl⟩ := Option.map_eq_some_iff.1 h
 unfold sizeOf
 rw [Sem.run_bind, run_info hi]
 rfl
theorem run_zero {v : Value} (h : zvB P t = some v) : (zeroValue t).run P w = .ok v w := by
 obtain ⟨i, hi, hz⟩ := Option.bind_eq_some_iff.1 h
 unfold zeroValue
 rw [Sem.run_bind, run_info hi]
 show ((match i.zero with | some v => pure v | none => unsupported (.resourceLimit "a value of more than 2^22 cells")) : Sem Value).run P w = _
 rw [hz]
 rfl
theorem run_agg {b : Bool} (h : aggB P t = some b) : (isAgg t).run P w = .ok b w := by
 unfold aggB at h
 cases hu : P.underlying t with
 | none => rw [hu] at h; cases h
 | some d =>
  unfold isAgg
  rw [Sem.run_bind, run_underlying hu]
  rw [hu] at h
  cases d <;> (injection h with h; subst h; rfl)
theorem run_load {a : Addr} {v : Value} (hc : w.cell? a = some v) : (load a).run P w = .ok v w := by
 show (Sem.load .plain a Sem.pure).run P w = _
 simp [Sem.run, hc]
theorem ld1 (h : aggB P t = some false) {a : Addr} {v : Value} (hc : w.cell? a = some v) : (Instr.loadAt t (.pointer (some a))).run P w = .ok v w := by
 unfold Instr.loadAt
 rw [Sem.run_bind, show (Instr.sureAddr (.pointer (some a))).run P w = .ok a w from rfl]
 show (loadVar t a).run P w = _
 unfold loadVar
 rw [Sem.run_bind, run_agg h]
 exact run_load hc
theorem run_loads (l : List Value) : ∀ (a : Addr) (i : Nat) (acc : Array Value), (∀ j v, l[j]? = some v → w.cell? (a.add (i + j)) = some v) → (loadCellsFrom a i l.length acc).run P w = .ok (acc ++ l.toArray) w := by
 induction l with
 | nil => intro a i acc _; simp [loadCellsFrom]
 | cons v r ih =>
  intro a i acc h
  show (loadCellsFrom a i (r.length + 1) acc).run P w = _
  unfold loadCellsFrom
  rw [Sem.run_bind, run_load (by simpa using h 0 v rfl)]
  show (loadCellsFrom a (i + 1) r.length (acc.push v)).run P w = _
  rw [ih a (i + 1) (acc.push v) (fun j u hj => by rw [show i + 1 + j = i + (j + 1) by omega]; exact h (j + 1) u hj)]
  simp
theorem ldn (h : aggB P t = some true) {cs : List Value} (hs : szB P t = some cs.length) {g o : Nat} (hc : ∀ j v, cs[j]? = some v → w.cell? ⟨g, o + j, none⟩ = some v) : (Instr.loadAt t (.pointer (some ⟨g, o, none⟩))).run P w = .ok (.agg cs.toArray) w := by
 unfold Instr.loadAt
 rw [Sem.run_bind, show (Instr.sureAddr (.pointer (some ⟨g, o, none⟩))).run P w = .ok ⟨g, o, none⟩ w from rfl]
 show (loadVar t ⟨g, o, none⟩).run P w = _
 unfold loadVar
 rw [Sem.run_bind, run_agg h]
 show ((do pure (.agg (← loadCells ⟨g, o, none⟩ (← sizeOf t)))) : Sem Value).run P w = _
 rw [Sem.run_bind, run_size hs]
 show ((loadCells ⟨g, o, none⟩ cs.length) >>= fun x => pure (Value.agg x)).run P w = _
 rw [Sem.run_bind]
 unfold loadCells
 rw [run_loads cs ⟨g, o, none⟩ 0 #[] (fun j v hj => ?_)]
 ·
  simp [Result.andThen]
 ·
  have : (⟨g, o, none⟩ : Addr).add (0 + j) = ⟨g, o + j, none⟩ := by unfold Addr.add; split <;> simp_all
  rw [this]
  exact hc j v hj
theorem run_store1 {a : Addr} {u v : Value} (hv : v.oneCell' = true) (hc : w.cell? a = some u) (hf : w.frozen? a = false) : (store a v).run P w = .ok () (w.setCell a v) := by
 show (Sem.store .plain a v (.pure ())).run P w = _
 cases v <;> first | (simp [Value.oneCell'] at hv; done) | (simp [Sem.run, hc, hf])
theorem cells_one {v : Value} (hv : v.oneCell' = true) : v.cells = #[v] := by
 cases v <;> first | rfl | (simp [Value.oneCell'] at hv)
theorem add0 (g o : Nat) : (⟨g, o, none⟩ : Addr).add 0 = ⟨g, o, none⟩ := rfl
theorem addp (g o n : Nat) : (⟨g, o, none⟩ : Addr).add n = ⟨g, o + n, none⟩ := by unfold Addr.add; split <;> simp_all
theorem st1 (hs : szB P t = some 1) {g o : Nat} {u v : Value} (hv : v.oneCell' = true) (hc : w.cell? ⟨g, o, none⟩ = some u) (hf : w.frozen? ⟨g, o, none⟩ = false) : (Instr.storeAt t (.pointer (some ⟨g, o, none⟩)) v).run P w = .ok () (w.setCell ⟨g, o, none⟩ v) := by
 unfold Instr.storeAt
 rw [Sem.run_bind, show (Instr.sureAddr (.pointer (some ⟨g, o, none⟩))).run P w = .ok ⟨g, o, none⟩ w from rfl]
 show (storeVar t ⟨g, o, none⟩ v).run P w = _
 unfold storeVar
 rw [Sem.run_bind, run_size hs]
 rw [cells_one hv]
 show (storeCells ⟨g, o, none⟩ [v]).run P w = _
 unfold storeCells
 rw [Sem.run_bind, add0, run_store1 hv hc hf]
 rfl
theorem al {z : Value} (hz : zvB P t = some z) : (Instr.alloc t true (.tuple #[])).run P w = .ok (.pointer (some ⟨w.heap.size, 0, none⟩)) (w.alloc (.cells z.cells t (0, 0))) := by
 unfold Instr.alloc
 rw [Sem.run_bind, run_zero hz]
 rfl
theorem bx {v : Value} : (Instr.box t v).run P w = .ok (.pointer (some ⟨w.heap.size, 0, none⟩)) (w.alloc (.cells v.cells t (0, 0))) := rfl
theorem ia_slice {e : TypeId} {k : IntKind} {i : Int} {g o n c s : Nat} (hu : P.underlying t = some (.slice e)) (hs : szB P e = some s) (h0 : 0 ≤ i) (h1 : i < n) :
  (Instr.indexAt t (.slice (some ⟨g, o, none⟩) n c) (.int k i)).run P w = .ok (.pointer (some ⟨g, o + i.toNat * s, none⟩)) w := by
 unfold Instr.indexAt
 rw [Sem.run_bind, show (asIntOf (.int k i)).run P w = .ok (k, i) w from rfl]
 simp only [Result.andThen]
 rw [Sem.run_bind, run_underlying hu]
 simp only [Result.andThen]
 rw [Sem.run_bind, show (pure (some (⟨g, o, none⟩ : Addr), n, e) : Sem (Option Addr × Nat × TypeId)).run P w = .ok (some ⟨g, o, none⟩, n, e) w from rfl]
 simp only [Result.andThen]
 rw [Sem.run_bind, run_underlying hu]
 simp only [Result.andThen]
 rw [if_pos ⟨h0, h1⟩, Sem.run_bind, run_size hs]
 simp only [Result.andThen]
 rw [addp]
 rfl
theorem ia_array {e : TypeId} {k : IntKind} {i : Int} {g o n s : Nat} (hu : P.underlying t = some (.array n e)) (hs : szB P e = some s) (h0 : 0 ≤ i) (h1 : i < n) :
  (Instr.indexAt t (.pointer (some ⟨g, o, none⟩)) (.int k i)).run P w = .ok (.pointer (some ⟨g, o + i.toNat * s, none⟩)) w := by
 unfold Instr.indexAt
 rw [Sem.run_bind, show (asIntOf (.int k i)).run P w = .ok (k, i) w from rfl]
 simp only [Result.andThen]
 rw [Sem.run_bind, run_underlying hu]
 simp only [Result.andThen]
 rw [Sem.run_bind, show (Instr.sureAddr (.pointer (some ⟨g, o, none⟩))).run P w = .ok ⟨g, o, none⟩ w from rfl]
 simp only [Result.andThen]
 rw [Sem.run_bind, show (pure (some (⟨g, o, none⟩ : Addr), n, e) : Sem (Option Addr × Nat × TypeId)).run P w = .ok (some ⟨g, o, none⟩, n, e) w from rfl]
 simp only [Result.andThen]
 rw [Sem.run_bind, run_underlying hu]
 simp only [Result.andThen]
 rw [if_pos ⟨h0, h1⟩, Sem.run_bind, run_size hs]
 simp only [Result.andThen]
 rw [addp]
 rfl
def bt (s : ByteArray) (i : Int) : Int := if h : i.toNat < s.size then ((s[i.toNat]'h).toNat : Int) else 0
theorem bt_range (s : ByteArray) (i : Int) : 0 ≤ bt s i ∧ bt s i ≤ 255 := by
 unfold bt
 split
 ·
  rename_i h
  have := (s[i.toNat]'h).toNat_lt
  omega
 ·
  omega
theorem ix_string {k : IntKind} {i : Int} {s : ByteArray} (hu : P.underlying t = some .string) (h0 : 0 ≤ i) (h1 : i < s.size) :
  (Instr.index t (.string s) (.int k i)).run P w = .ok (.int .u8 (bt s i)) w := by
 unfold Instr.index
 rw [Sem.run_bind, show (asIntOf (.int k i)).run P w = .ok (k, i) w from rfl]
 simp only [Result.andThen]
 rw [Sem.run_bind, run_underlying hu]
 simp only [Result.andThen]
 rw [if_pos h0]
 have hi : i.toNat < s.size := by omega
 rw [getElem?_pos s i.toNat hi]
 simp [bt, hi]
theorem sl_string {k k' : IntKind} {l h : Int} {s : ByteArray} (hu : P.underlying t = some .string) (h0 : 0 ≤ l) (h1 : l ≤ h) (h2 : h ≤ s.size) :
  (Instr.sliceAt t (.string s) (some (.int k l)) (some (.int k' h)) none).run P w = .ok (.string (s.extract l.toNat h.toNat)) w := by
 unfold Instr.sliceAt
 rw [Sem.run_bind, run_underlying hu]
 show (Instr.slice t (.string s) (some (.int k l)) (some (.int k' h)) none).run P w = _
 unfold Instr.slice
 rw [Sem.run_bind, run_underlying hu]
 simp only [Result.andThen]
 have hh : 0 ≤ h := by omega
 obtain ⟨h', rfl⟩ := Int.eq_ofNat_of_zero_le hh
 obtain ⟨l', rfl⟩ := Int.eq_ofNat_of_zero_le h0
 have hl : l' ≤ h' := by omega
 have h3 : h' ≤ s.size := by omega
 simp [Instr.sliceBounds, Instr.sliceBound, asIntOf, Sem.run_bind, Result.andThen, h3, hl]
theorem sl_string_lo {k : IntKind} {l : Int} {s : ByteArray} (hu : P.underlying t = some .string) (h0 : 0 ≤ l) (h1 : l ≤ s.size) :
  (Instr.sliceAt t (.string s) (some (.int k l)) none none).run P w = .ok (.string (s.extract l.toNat s.size)) w := by
 unfold Instr.sliceAt
 rw [Sem.run_bind, run_underlying hu]
 show (Instr.slice t (.string s) (some (.int k l)) none none).run P w = _
 unfold Instr.slice
 rw [Sem.run_bind, run_underlying hu]
 simp only [Result.andThen]
 simp [Instr.sliceBounds, Instr.sliceBound, asIntOf, Sem.run_bind, Result.andThen, h0, h1]
theorem sl_string_hi {k : IntKind} {h : Int} {s : ByteArray} (hu : P.underlying t = some .string) (h0 : 0 ≤ h) (h1 : h ≤ s.size) :
  (Instr.sliceAt t (.string s) none (some (.int k h)) none).run P w = .ok (.string (s.extract 0 h.toNat)) w := by
 unfold Instr.sliceAt
 rw [Sem.run_bind, run_underlying hu]
 show (Instr.slice t (.string s) none (some (.int k h)) none).run P w = _
 unfold Instr.slice
 rw [Sem.run_bind, run_underlying hu]
 simp only [Result.andThen]
 simp [Instr.sliceBounds, Instr.sliceBound, asIntOf, Sem.run_bind, Result.andThen, h0, h1]
def cutAt (A : Option Addr) (c l s : Nat) : Option Addr := if c = l then A else A.map (·.add (l * s))
theorem sl_slice {e : TypeId} {s : Nat} {k k' : IntKind} {l h : Int} {A : Option Addr} {n c : Nat} (hu : P.underlying t = some (.slice e)) (hs : szB P e = some s) (h0 : 0 ≤ l) (h1 : l ≤ h) (h2 : h ≤ c) :
  (Instr.sliceAt t (.slice A n c) (some (.int k l)) (some (.int k' h)) none).run P w = .ok (.slice (cutAt A c l.toNat s) (h.toNat - l.toNat) (c - l.toNat)) w := by
 unfold Instr.sliceAt
 rw [Sem.run_bind, run_underlying hu]
 show (Instr.slice t (.slice A n c) (some (.int k l)) (some (.int k' h)) none).run P w = _
 unfold Instr.slice
 rw [Sem.run_bind, run_underlying hu]
 simp only [Result.andThen]
 have hh : 0 ≤ h := by omega
 obtain ⟨h', rfl⟩ := Int.eq_ofNat_of_zero_le hh
 obtain ⟨l', rfl⟩ := Int.eq_ofNat_of_zero_le h0
 have hl : l' ≤ h' := by omega
 have h3 : h' ≤ c := by omega
 simp [Instr.sliceBounds, Instr.sliceBound, asIntOf, Sem.run_bind, Result.andThen, h3, hl, run_size hs, cutAt]
theorem sl_slice_lo {e : TypeId} {s : Nat} {k : IntKind} {l : Int} {A : Option Addr} {n c : Nat} (hu : P.underlying t = some (.slice e)) (hs : szB P e = some s) (h0 : 0 ≤ l) (h1 : l ≤ n) :
  (Instr.sliceAt t (.slice A n c) (some (.int k l)) none none).run P w = .ok (.slice (cutAt A c l.toNat s) (n - l.toNat) (c - l.toNat)) w := by
 unfold Instr.sliceAt
 rw [Sem.run_bind, run_underlying hu]
 show (Instr.slice t (.slice A n c) (some (.int k l)) none none).run P w = _
 unfold Instr.slice
 rw [Sem.run_bind, run_underlying hu]
 simp only [Result.andThen]
 simp [Instr.sliceBounds, Instr.sliceBound, asIntOf, Sem.run_bind, Result.andThen, h0, h1, run_size hs, cutAt]
theorem sl_slice_hi {e : TypeId} {s : Nat} {k : IntKind} {h : Int} {A : Option Addr} {n c : Nat} (hu : P.underlying t = some (.slice e)) (hs : szB P e = some s) (h0 : 0 ≤ h) (h1 : h ≤ c) :
  (Instr.sliceAt t (.slice A n c) none (some (.int k h)) none).run P w = .ok (.slice A h.toNat c) w := by
 unfold Instr.sliceAt
 rw [Sem.run_bind, run_underlying hu]
 show (Instr.slice t (.slice A n c) none (some (.int k h)) none).run P w = _
 unfold Instr.slice
 rw [Sem.run_bind, run_underlying hu]
 simp only [Result.andThen]
 have : (A.map (·.add (0 * s))) = A := by cases A <;> simp [Addr.add]
 simp [Instr.sliceBounds, Instr.sliceBound, asIntOf, Sem.run_bind, Result.andThen, h0, h1, run_size hs]
 intro _
 cases A <;> simp [Addr.add]
end
end Go.Proofs.HHW
end
section
namespace Go.Proofs.HHW
open Go.RowKit YtbahngfpadjbhaaGreatDoorW.PrintLast
section
variable {P : Program} {ops : Array Oper} {Q : Exit → Act → World → Prop} {a : Act} {w : World} {B : Nat} {w0 : World} {L L' : List (Nat × Obj)} {n d : Nat} {ds : List Deferred} {F : List (Nat × Value)} {dss : List Nat} {fuel : Nat} {l : Array Bool}
theorem wanted_none {o : Oper} {y : Nat → Option Bool} (hg : o.guard = none) : Region.wanted o y = true := by unfold Region.wanted; rw [hg]
theorem yields_of {o oj : Oper} {j dj : Nat} {c b : Bool} (S : SL a n ds F) (hg : o.guard = some (j, b)) (hj : ops[j]? = some oj) (hd : oj.dst = some dj) (hs : slot F dj = some (.bool c)) : Region.wanted o (yielded ops a.tmps) = (c == b) := by
 unfold Region.wanted
 rw [hg]
 simp only [yielded, hj, hd, Option.bind_some, S.at_ dj _ hs]
 cases c <;> cases b <;> rfl
theorem wanted_on {o oj : Oper} {j dj : Nat} {c b : Bool} (S : SL a n ds F) (hg : o.guard = some (j, b)) (hj : ops[j]? = some oj) (hd : oj.dst = some dj) (hs : slot F dj = some (.bool c)) (hc : c = b) : Region.wanted o (yielded ops a.tmps) = true := by
 rw [yields_of S hg hj hd hs, hc]; simp
theorem wanted_off {o oj : Oper} {j dj : Nat} {c b : Bool} (S : SL a n ds F) (hg : o.guard = some (j, b)) (hj : ops[j]? = some oj) (hd : oj.dst = some dj) (hs : slot F dj = some (.bool c)) (hc : c = !b) : Region.wanted o (yielded ops a.tmps) = false := by
 rw [yields_of S hg hj hd hs, hc]; cases b <;> rfl
theorem d_start {id : Nat} (dss : List Nat) (N : Nat) (l : Array Bool) (H : HH B w0 w L) (hm : P.follows .mixedOrders = true) (hn : ops.size = N) (hl : Array.replicate N false = l)
  (h : ∀ w, HH B w0 w L → wpAnyLast P .any ops Q (fun w => HH B w0 w L) dss N l a w) : (Code.region id ops true).wp P Q a w :=
 start_ l hm hn hl H.drew (fun H' => h _ H')
theorem d_pure {i : Nat} {oi : Oper} {v : Value} (l' : Array Bool) (S : SL a n ds F) (hi : ops[i]? = some oi) (hp : Pure P F oi.op v) (hw : Region.wanted oi (yielded ops a.tmps) = true) (hd : oi.dst = some d) (hn : Nat.blt d n = true)
  (hc : anyB .any ops l l' i = true) (hQ : ∀ c (a : Act) w, Q (.panic c) (a.put oi.dst v) w → Q (.panic c) a w)
  (h : ∀ a, SL a n ds ((d, v) :: F) → wpAnyLast P .any ops Q (fun w => HH B w0 w L) dss fuel l' a w) : wpAnyLast P .any ops Q (fun w => HH B w0 w L) dss (fuel + 1) l a w :=
 pure_ l' hi rfl hc hQ (.inl ⟨hw, fun w => hp _ S.agree oi rfl w⟩) rfl (by rw [hd]; exact h _ (S.put hn v))
theorem d_read {i : Nat} {oi : Oper} {v : Value} (l' : Array Bool) (S : SL a n ds F) (H : HH B w0 w L) (hi : ops[i]? = some oi) (hp : Reads P F B w0 L oi.op v) (hw : Region.wanted oi (yielded ops a.tmps) = true) (hd : oi.dst = some d) (hn : Nat.blt d n = true)
  (hc : takeB .any ops dss l l' i = true) (hQ : ∀ c (a : Act) w, Q (.panic c) (a.put oi.dst v) w → Q (.panic c) a w)
  (h : ∀ a, SL a n ds ((d, v) :: F) → wpAnyLast P .any ops Q (fun w => HH B w0 w L) dss fuel l' a w) : wpAnyLast P .any ops Q (fun w => HH B w0 w L) dss (fuel + 1) l a w :=
 take_ l' hi rfl hc hQ (.inl ⟨hw, fun w hS => hp _ S.agree oi rfl w hS⟩) H rfl (by rw [hd]; exact h _ (S.put hn v))
theorem d_off {i : Nat} {oi : Oper} (l' : Array Bool) (S : SL a n ds F) (hi : ops[i]? = some oi) (hw : Region.wanted oi (yielded ops a.tmps) = false) (hd : oi.dst = some d) (hn : Nat.blt d n = true)
  (hc : anyB .any ops l l' i = true) (hQ : ∀ c (a : Act) w, Q (.panic c) (a.put oi.dst undef) w → Q (.panic c) a w)
  (h : ∀ a, SL a n ds ((d, undef) :: F) → wpAnyLast P .any ops Q (fun w => HH B w0 w L) dss fuel l' a w) : wpAnyLast P .any ops Q (fun w => HH B w0 w L) dss (fuel + 1) l a w :=
 pure_ l' hi rfl hc hQ (.inr ⟨hw, rfl⟩) rfl (by rw [hd]; exact h _ (S.put hn undef))
theorem d_call {i : Nat} {oi : Oper} {f : FuncId} {fn : Func} {xs : List Operand} {ts : Array TypeId} {vs : List Value} {R : Ending → World → Prop} (l' : Array Bool) (S : SL a n ds F) (hi : ops[i]? = some oi)
  (ho : oi.op = .call { callee := .value (.func f), args := xs.toArray, argTypes := ts }) (hx : evs F xs = some vs) (hf : P.funcs[f]? = some fn) (hname : (fn.name == "runtime.NumGoroutine") = false) (hb : fn.body.isSome = true)
  (hcall : Calls P f vs.toArray w R) (hw : Region.wanted oi (yielded ops a.tmps) = true) (hd : oi.dst = some d) (hn : Nat.blt d n = true)
  (hc : readyB .any ops l l' i = true) (hds : dss.contains i = false)
  (h : ∀ e w, R e w → ∃ v, e = .returned v ∧ HH B w0 w L ∧ ∀ a, SL a n ds ((d, v) :: F) → wpAnyLast P .any ops Q (fun w => HH B w0 w L) dss fuel l' a w) : wpAnyLast P .any ops Q (fun w => HH B w0 w L) dss (fuel + 1) l a w := by
 refine one_ l' hi hd hc (by simpa using hds) (fun K hK => ?_)
 refine goes_ hf hname hb vs.toArray hw hd ho (by rw [List.map_toArray, S.agree.list hx]) (hcall.mono ?_)
 intro e w1 hr
 obtain ⟨v, he, H1, hk⟩ := h e w1 hr
 exact ⟨v, he, hK.out _ _ H1 (fun _ => hk _ (S.put hn v))⟩
theorem d_call_last {i : Nat} {oi : Oper} {f : FuncId} {fn : Func} {xs : List Operand} {ts : Array TypeId} {vs : List Value} {R : Ending → World → Prop} (l' : Array Bool) (S : SL a n ds F) (hi : ops[i]? = some oi)
  (ho : oi.op = .call { callee := .value (.func f), args := xs.toArray, argTypes := ts }) (hx : evs F xs = some vs) (hf : P.funcs[f]? = some fn) (hname : (fn.name == "runtime.NumGoroutine") = false) (hb : fn.body.isSome = true)
  (hcall : Calls P f vs.toArray w R) (hw : Region.wanted oi (yielded ops a.tmps) = true) (hd : oi.dst = some d) (hn : Nat.blt d n = true)
  (hc : readyB .any ops l l' i = true) (hds : dss.contains i = true)
  (h : ∀ e w, R e w → ∃ v, e = .returned v ∧ ∀ a, SL a n ds ((d, v) :: F) → wpAnyLast P .any ops Q (fun w => HH B w0 w L) dss fuel l' a w) : wpAnyLast P .any ops Q (fun w => HH B w0 w L) dss (fuel + 1) l a w := by
 refine last_ l' hi hd hc (by simpa using hds) (fun K hK => ?_)
 refine goes_ hf hname hb vs.toArray hw hd ho (by rw [List.map_toArray, S.agree.list hx]) (hcall.mono ?_)
 intro e w1 hr
 obtain ⟨v, he, hk⟩ := h e w1 hr
 exact ⟨v, he, hK.out _ _ (hk _ (S.put hn v))⟩
theorem d_done (hr : (Region.ready .any ops l == []) = true) (h : Q .normal a w) : wpAnyLast P .any ops Q (fun w => HH B w0 w L) dss fuel l a w := done_ hr h
end
theorem leaves_put {P : Program} {fn : Func} {R : Ending → World → Prop} {t t' : Array Value} (hr : results fn t = results fn t') : ∀ (ds : List Deferred) (u : FrameMode) (w : World), Leaves P fn t R ds u w → Leaves P fn t' R ds u w := by
 intro ds
 induction ds with
 | nil =>
  intro u w h
  cases u with
  | returning =>
   obtain ⟨v, h1, h2⟩ := h
   exact ⟨v, by rw [← hr]; exact h1, h2⟩
  | panicking c => exact h
  | run => exact h
 | cons d r ih =>
  intro u w h
  obtain ⟨h0, fv, cap, f, args, h1, h2, h3⟩ := h
  refine ⟨h0, fv, cap, f, args, h1, h2, h3.mono ?_⟩
  intro e u' w' h4
  cases e with
  | returned v => exact ih _ _ h4
  | panicked c => exact ih _ _ h4
  | outgrown => exact h4
theorem hq_d {P : Program} {fn : Func} {R : Ending → World → Prop} {d : Nat} {v : Value} (h : ∀ t : Array Value, results fn (t.setIfInBounds d v) = results fn t) : ∀ c (a : Act) w, bodyPostD P fn R (.panic c) (a.put (some d) v) w → bodyPostD P fn R (.panic c) a w := by
 intro c a w hh
 exact leaves_put (h _) _ _ _ hh
end Go.Proofs.HHW
end
section
namespace Go.Proofs.HHW
open Go.RowKit
inductive Rep : List (Nat × Obj) → Nat → Obj → Nat → Obj → List (Nat × Obj) → Prop
 | here {L : List (Nat × Obj)} {g g' : Nat} {o o' : Obj} : Rep ((g, o) :: L) g o g' o' ((g', o') :: L)
 | there {L L' : List (Nat × Obj)} {p : Nat × Obj} {g g' : Nat} {o o' : Obj} (h : Rep L g o g' o' L') : Rep (p :: L) g o g' o' (p :: L')
theorem Rep.upd_ {L L' : List (Nat × Obj)} {g g' : Nat} {o o' : Obj} (h : Rep L g o g' o' L') : g' = g → Upd L g o o' L' := by
 induction h with
 | here => intro e; subst e; exact .here
 | there h ih => intro e; exact .there (ih e)
theorem Rep.upd {L L' : List (Nat × Obj)} {g : Nat} {o o' : Obj} (h : Rep L g o g o' L') : Upd L g o o' L' := h.upd_ rfl
theorem Rep.mem {L L' : List (Nat × Obj)} {g g' : Nat} {o o' : Obj} (h : Rep L g o g' o' L') : (g, o) ∈ L := by
 induction h with
 | here => exact List.mem_cons_self
 | there h ih => exact List.mem_cons_of_mem _ ih
theorem Rep.sub {L L' : List (Nat × Obj)} {g g' : Nat} {o o' : Obj} (h : Rep L g o g' o' L') : ∀ p ∈ L', p = (g', o') ∨ p ∈ L := by
 induction h with
 | here =>
  intro p hp
  rcases List.mem_cons.1 hp with rfl | hp
  ·
   exact .inl rfl
  ·
   exact .inr (List.mem_cons_of_mem _ hp)
 | there h ih =>
  intro p hp
  rcases List.mem_cons.1 hp with rfl | hp
  ·
   exact .inr List.mem_cons_self
  ·
   rcases ih p hp with h1 | h1
   ·
    exact .inl h1
   ·
    exact .inr (List.mem_cons_of_mem _ h1)
theorem Rep.pair {L L' : List (Nat × Obj)} {g z : Nat} {o o' : Obj} (h : Rep L g o z o' L') : (∀ p ∈ L, p.1 < z) → L.Pairwise (fun p q => p.1 ≠ q.1) → L'.Pairwise (fun p q => p.1 ≠ q.1) := by
 induction h with
 | here =>
  intro hl hn
  refine List.pairwise_cons.2 ⟨fun q hq => ?_, (List.pairwise_cons.1 hn).2⟩
  have := hl q (List.mem_cons_of_mem _ hq)
  simp only
  omega
 | there h ih =>
  intro hl hn
  refine List.pairwise_cons.2 ⟨fun q hq => ?_, ih (fun p hp => hl p (List.mem_cons_of_mem _ hp)) (List.pairwise_cons.1 hn).2⟩
  rcases h.sub q hq with rfl | h1
  ·
   have := hl _ List.mem_cons_self
   simp only
   omega
  ·
   exact (List.pairwise_cons.1 hn).1 q h1
theorem HH.rep {B : Nat} {w0 w : World} {L L' : List (Nat × Obj)} {g : Nat} {o o' : Obj} (H : HH B w0 w L) (hr : Rep L g o w.heap.size o' L') : HH B w0 (w.alloc o') L' := by
 have H1 := H.alloc o'
 refine ⟨H1.below, H1.hB, ?_, hr.pair (fun p hp => H.lt hp) H.nodup, ?_⟩
 ·
  intro p hp
  rcases hr.sub p hp with rfl | h
  ·
   exact H.hB
  ·
   exact H.lo p h
 ·
  intro p hp
  rcases hr.sub p hp with rfl | h
  ·
   exact H1.at_ _ List.mem_cons_self
  ·
   exact H1.at_ _ (List.mem_cons_of_mem _ h)
theorem HH.swap {B : Nat} {w0 w : World} {L L' : List (Nat × Obj)} {g : Nat} {o o' : Obj} (H : HH B w0 w L) (hr : Rep L g o w.heap.size o' L') : HH B w0 (w.drew.alloc o') L' := H.drew.rep hr
def spl : Array Value → Nat → List Value → Array Value
 | cs, _, [] => cs
 | cs, o, v :: r => spl (cs.setIfInBounds o v) (o + 1) r
theorem spl_size : ∀ (vs : List Value) (cs : Array Value) (o : Nat), (spl cs o vs).size = cs.size
 | [], _, _ => rfl
 | v :: r, cs, o => by rw [spl, spl_size r]; simp
theorem spl_out : ∀ (vs : List Value) (cs : Array Value) (o j : Nat), j < o ∨ o + vs.length ≤ j → (spl cs o vs)[j]? = cs[j]?
 | [], _, _, _, _ => rfl
 | v :: r, cs, o, j, h => by
  have h' : j < o ∨ o + r.length + 1 ≤ j := by simpa [Nat.add_assoc] using h
  rw [spl, spl_out r _ _ j (by omega)]
  exact Array.getElem?_setIfInBounds_ne (by omega)
theorem spl_in : ∀ (vs : List Value) (cs : Array Value) (o j : Nat), o + vs.length ≤ cs.size → j < vs.length → (spl cs o vs)[o + j]? = vs[j]?
 | [], _, _, _, _, h => by simp at h
 | v :: r, cs, o, j, hs, hj => by
  simp only [List.length_cons] at hs hj
  rw [spl]
  cases j with
  | zero =>
   rw [spl_out r _ _ _ (by omega)]
   simp [show o < cs.size by omega]
  | succ j =>
   have := spl_in r (cs.setIfInBounds o v) (o + 1) j (by simp; omega) (by omega)
   rw [show o + (j + 1) = o + 1 + j by omega, this]
   simp
theorem HH.sets {B : Nat} {w0 : World} {g : Nat} {t : TypeId} {f : Nat × Nat} : ∀ (vs : List Value) (o : Nat) (cs : Array Value) {w : World} {L L' : List (Nat × Obj)} (H : HH B w0 w L) (hr : Rep L g (.cells cs t f) g (.cells (spl cs o vs) t f) L'), HH B w0 (w.setCells g o vs) L'
 | [], o, cs, w, L, L', H, hr => by
  have : L' = L := hr.upd.same rfl
  rw [this]
  exact H
 | v :: r, o, cs, w, L, L', H, hr => by
  rw [World.setCells]
  obtain ⟨L1, h1, h2⟩ : ∃ L1, Upd L g (.cells cs t f) (.cells (cs.setIfInBounds o v) t f) L1 ∧ Rep L1 g (.cells (cs.setIfInBounds o v) t f) g (.cells (spl (cs.setIfInBounds o v) (o + 1) r) t f) L' := by
   rw [spl] at hr
   generalize spl (cs.setIfInBounds o v) (o + 1) r = X at hr
   clear H
   have hu := hr.upd
   clear hr
   generalize ho : Obj.cells cs t f = O at hu
   generalize hx : Obj.cells X t f = O' at hu
   induction hu with
   | here => subst ho; subst hx; exact ⟨_, .here, .here⟩
   | there h ih =>
    obtain ⟨L1, h1, h2⟩ := ih ho hx
    exact ⟨_, .there h1, .there h2⟩
  exact HH.sets r (o + 1) _ (H.set h1) h2
section
variable {P : Program} {ops : Array Oper} {rest : List Oper} {o : Oper} {a : Act} {Q : Exit → Act → World → Prop} {B : Nat} {w0 w : World} {L : List (Nat × Obj)} {n d : Nat} {ds : List Deferred} {F : List (Nat × Value)}
end
end Go.Proofs.HHW
end
section
namespace Go.Proofs.HHW
open Go.RowKit YtbahngfpadjbhaaGreatDoorW.PrintWords
section
variable {P : Program} {B : Nat} {w0 w w' : World} {L : List (Nat × Obj)} {α : Type} {enc : α → Value} {h1 : ∀ x, (enc x).oneCell' = true}
theorem src_C {tx e' : TypeId} {A : Option Addr} {c : Nat} {xs : List α} (hk : P.underlying tx = some (.slice e')) (h : (Kd.scalar enc h1).C w A xs.length xs) : Src P 1 tx (.slice A xs.length c) xs.length (xs.map enc) w := by
 cases xs with
 | nil =>
  refine ⟨.inl ⟨e', hk⟩, fun _ => rfl, ?_, ?_, by simp, fun _ h => by cases h⟩ <;> cases A <;> simp [Builtin.firstCells, loadCells, loadCellsFrom]
 | cons x r =>
  obtain ⟨hl, _, hc0⟩ := h
  obtain ⟨ad, rfl, hc⟩ := hc0 (by simp)
  refine Src.ofSlice w hk ad _ c _ (by simp) (fun j u hj => ?_) (fun u hu => ?_)
  ·
   obtain ⟨p, hp, rfl⟩ : ∃ p, (x :: r)[j]? = some p ∧ enc p = u := by rw [List.getElem?_map] at hj; exact Option.map_eq_some_iff.1 hj
   obtain ⟨cs, hlen, hK, hcell⟩ := hc j p hp
   have hK' : cs = [enc p] := hK
   subst hK'
   have := hcell 0 (enc p) rfl
   have hs : (Kd.scalar enc h1).sz = 1 := rfl
   rw [hs] at this
   simpa using this
  ·
   obtain ⟨p, _, rfl⟩ := List.mem_map.1 hu
   exact h1 p
end
section
variable {P : Program} {w : World} {t t' : TypeId}
theorem lv {B : Nat} {w0 : World} {L : List (Nat × Obj)} {g : Nat} {cs : Array Value} {e : TypeId} {f : Nat × Nat} {v : Value} (h : aggB P t = some false) (H : HH B w0 w L) (hm : (g, Obj.cells cs e f) ∈ L) (hv : cs[0]? = some v) : (loadVar t ⟨g, 0, none⟩).run P w = .ok v w := by
 have hat := H.at_ _ hm
 simp only at hat
 exact ld1 h (a := ⟨g, 0, none⟩) (by simp [World.cell?, hat, hv])
theorem res_c1 {F : List (Nat × Value)} {fn : Func} {a : Tmp} {t : TypeId} {ad : Addr} {v : Value} (hr : fn.results = #[.cell a t]) (ha : slot F a = some (.pointer (some ad))) (h1 : (loadVar t ad).run P w = .ok v w) :
  ∀ tmps : Array Value, (∀ i v, slot F i = some v → tmps[i]? = some v) → (results fn tmps).run P w = .ok v w := by
 intro tmps ht
 simp [results, hr, ht a _ ha, asAddr, Sem.run_bind, Result.andThen, h1]
theorem res_c2 {F : List (Nat × Value)} {fn : Func} {a b : Tmp} {t u : TypeId} {ad bd : Addr} {v v' : Value} (hr : fn.results = #[.cell a t, .cell b u]) (ha : slot F a = some (.pointer (some ad))) (hb : slot F b = some (.pointer (some bd)))
  (h1 : (loadVar t ad).run P w = .ok v w) (h2 : (loadVar u bd).run P w = .ok v' w) :
  ∀ tmps : Array Value, (∀ i v, slot F i = some v → tmps[i]? = some v) → (results fn tmps).run P w = .ok (.tuple #[v, v']) w := by
 intro tmps ht
 simp [results, hr, ht a _ ha, ht b _ hb, asAddr, Sem.run_bind, Result.andThen, h1, h2]
theorem cv_int {k k' : IntKind} {n r : Int} {d : TypeDesc} (hs : P.underlying t = some d) (ht : P.underlying t' = some (.int k')) (hr : k'.wrap n = r) : (convert t t' (.int k n)).run P w = .ok (.int k' r) w := by
 unfold convert
 rw [Sem.run_bind, run_underlying hs]
 simp only [Result.andThen]
 rw [Sem.run_bind, run_underlying ht]
 simp only [Result.andThen]
 subst hr
 rfl
theorem not_eq_true_ {b : Bool} (h : (!b) = true) : b = false := by simpa using h
theorem not_eq_false_ {b : Bool} (h : (!b) = false) : b = true := by simpa using h
end
end Go.Proofs.HHW
end
