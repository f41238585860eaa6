/- Words of this seat's own: a walk whose state is a list of slots ('SL') beside a list of blocks ('HH'): each operation is one step, by a law of its own. -/
import Derived.Test.YtnmelglnkefjfaaDoorHh
import Derived.Test.YtnmelglnkefjfaaDoorWLast
import Derived.Test.YtnmelglnkefjfaaDoorWTab
import Derived.Laws.Sem
namespace Go.Proofs.HHW
open Go.RowKit
set_option linter.unusedVariables false
set_option linter.unusedSimpArgs false

/-! ### slots -/
def slot : List (Nat × Value) → Nat → Option Value
  | [], _ => none
  | (k, v) :: r, i => match Nat.beq k i with
    | true => some v
    | false => slot r i
structure SL (a : Act) (n : Nat) (ds : List Deferred) (F : List (Nat × Value)) : Prop where
  size : a.tmps.size = n
  defers : a.defers = ds
  at_ : ∀ i v, slot F i = some v → a.tmps[i]? = some v
def ev (F : List (Nat × Value)) : Operand → Option Value
  | .tmp t => slot F t
  | .const v => some v
  | .global g => some (.pointer (some ⟨g, 0, none⟩))
  | .func f => some (.func (.func f) #[] #[])
def evs (F : List (Nat × Value)) : List Operand → Option (List Value)
  | [] => some []
  | x :: r => match ev F x, evs F r with
    | some v, some vs => some (v :: vs)
    | _, _ => none
/-- What the slots say of an operand. -/
def Agree (F : List (Nat × Value)) (ρ : Operand → Value) : Prop := ∀ x v, ev F x = some v → ρ x = v
theorem SL.agree {a : Act} {n : Nat} {ds : List Deferred} {F : List (Nat × Value)} (S : SL a n ds F) : Agree F a.eval := by
  intro x v h
  cases x with
  | tmp t =>
    have := S.at_ t v h
    simp [Act.eval, this]
  | const u => simpa [ev, Act.eval] using h
  | global g => simpa [ev, Act.eval] using h
  | func f => simpa [ev, Act.eval] using h
theorem Agree.list {F : List (Nat × Value)} {ρ : Operand → Value} (A : Agree F ρ) : ∀ {l : List Operand} {vs : List Value}, evs F l = some vs → l.map ρ = vs
  | [], vs, h => by simp [evs] at h; simp [h]
  | x :: r, vs, h => by
    simp only [evs] at h
    split at h
    · rename_i v us h1 h2
      injection h with h
      subst h
      simp [A x v h1, Agree.list A h2]
    · cases h
theorem SL.put {a : Act} {n : Nat} {ds : List Deferred} {F : List (Nat × Value)} (S : SL a n ds F) {d : Nat} (hn : Nat.blt d n = true) (v : Value) : SL (a.put (some d) v) n ds ((d, v) :: F) := by
  have hd : d < n := by simpa using hn
  refine ⟨by simp [Act.put, S.size], S.defers, fun i u h => ?_⟩
  simp only [slot] at h
  cases hb : Nat.beq d i with
  | true =>
    rw [hb] at h
    have : d = i := Nat.eq_of_beq_eq_true hb
    subst this
    injection h with h
    subst h
    simp [Act.put, S.size, hd]
  | false =>
    rw [hb] at h
    have hne : d ≠ i := Nat.ne_of_beq_eq_false hb
    have := S.at_ i u h
    simp [Act.put, Array.getElem?_setIfInBounds_ne hne, this]
theorem SL.of {a : Act} {n : Nat} {ds : List Deferred} {F : List (Nat × Value)} (S : SL a n ds F) (i : Nat) {v : Value} (h : slot F i = some v) : slot F i = some v := h
def enum : Nat → List Value → List (Nat × Value)
  | _, [] => []
  | i, v :: r => (i, v) :: enum (i + 1) r
theorem slot_enum : ∀ (l : List Value) (i j : Nat) (v : Value), slot (enum i l) j = some v → i ≤ j ∧ l[j - i]? = some v
  | [], _, _, _, h => by simp [enum, slot] at h
  | u :: r, i, j, v, h => by
    simp only [enum, slot] at h
    cases hb : Nat.beq i j with
    | true =>
      rw [hb] at h
      have : i = j := Nat.eq_of_beq_eq_true hb
      subst this
      injection h with h
      subst h
      exact ⟨Nat.le_refl _, by simp⟩
    | false =>
      rw [hb] at h
      have hne : i ≠ j := Nat.ne_of_beq_eq_false hb
      obtain ⟨h1, h2⟩ := slot_enum r (i + 1) j v h
      refine ⟨by omega, ?_⟩
      rw [show j - i = (j - (i + 1)) + 1 by omega]
      simpa using h2
theorem SL.enter {args : Array Value} {k n : Nat} {F : List (Nat × Value)} (hF : enum 0 args.toList = F) (hk : args.size + k = n) : SL { tmps := args ++ Array.replicate k undef, defers := [] } n [] F := by
  subst hF
  refine ⟨by simp [hk], rfl, fun i v h => ?_⟩
  obtain ⟨_, h2⟩ := slot_enum _ _ _ _ h
  simp at h2
  have hi : i < args.size := (Array.getElem?_eq_some_iff.1 h2).1
  show (args ++ Array.replicate k undef)[i]? = some v
  rw [Array.getElem?_append_left hi, h2]
/-- Slots forgotten, or told anew. -/
theorem SL.weaken {a : Act} {n : Nat} {ds : List Deferred} {F F' : List (Nat × Value)} (S : SL a n ds F) (h : ∀ i v, slot F' i = some v → slot F i = some v) : SL a n ds F' := ⟨S.size, S.defers, fun i v hi => S.at_ i v (h i v hi)⟩
def allIn (F : List (Nat × Value)) : List (Nat × Value) → Prop
  | [] => True
  | (k, v) :: r => slot F k = some v ∧ allIn F r
theorem SL.only {a : Act} {n : Nat} {ds : List Deferred} {F F' : List (Nat × Value)} (S : SL a n ds F) (h : allIn F F') : SL a n ds F' := by
  refine S.weaken ?_
  induction F' with
  | nil => intro i v hi; simp [slot] at hi
  | cons p r ih =>
    intro i v hi
    simp only [slot] at hi
    cases hb : Nat.beq p.1 i with
    | true =>
      rw [hb] at hi
      have : p.1 = i := Nat.eq_of_beq_eq_true hb
      subst this
      injection hi with hi
      subst hi
      exact h.1
    | false =>
      rw [hb] at hi
      exact ih h.2 i v hi

/-! ### operations that only compute, or only read -/
section
variable {P : Program} {F : List (Nat × Value)} {B : Nat} {w0 : World} {L : List (Nat × Obj)}
/-- In every world that is known so, the operation yields v and does nothing else. -/
def Reads (P : Program) (F : List (Nat × Value)) (B : Nat) (w0 : World) (L : List (Nat × Obj)) (op : Op) (v : Value) : Prop :=
  ∀ (ρ : Operand → Value), Agree F ρ → ∀ (o : Oper), o.op = op → ∀ w, HH B w0 w L → (execOp ρ o).run P w = .ok (.value v) w
/-- In every world. -/
def Pure (P : Program) (F : List (Nat × Value)) (op : Op) (v : Value) : Prop :=
  ∀ (ρ : Operand → Value), Agree F ρ → ∀ (o : Oper), o.op = op → ∀ w, (execOp ρ o).run P w = .ok (.value v) w
theorem Pure.reads {op : Op} {v : Value} (h : Pure P F op v) : Reads P F B w0 L op v := fun ρ A o ho w _ => h ρ A o ho w

theorem run_v {s : Sem Value} {v : Value} {w w1 : World} (h : s.run P w = .ok v w1) : (do pure (Next.value (← s)) : Sem Next).run P w = .ok (.value v) w1 := by
  show (s >>= fun x => pure (Next.value x)).run P w = _
  rw [Sem.run_bind, h]
  rfl
theorem p_move {x : Operand} {v : Value} (hx : ev F x = some v) : Pure P F (.move x) v := by
  intro ρ A o ho w
  unfold execOp
  simp only [ho]
  rw [A x v hx]
  rfl
theorem p_assign {x : Operand} {v : Value} (hx : ev F x = some v) : Pure P F (.assign x) v := by
  intro ρ A o ho w
  unfold execOp
  simp only [ho]
  rw [A x v hx]
  rfl
theorem p_pick_t {x y z : Operand} {b : Bool} {v : Value} (hx : ev F x = some (.bool b)) (hb : b = true) (hy : ev F y = some v) : Pure P F (.pick x y z) v := by
  intro ρ A o ho w
  subst hb
  unfold execOp
  simp only [ho]
  rw [A x _ hx, A y _ hy]
  rfl
theorem p_pick_f {x y z : Operand} {b : Bool} {v : Value} (hx : ev F x = some (.bool b)) (hb : b = false) (hy : ev F z = some v) : Pure P F (.pick x y z) v := by
  intro ρ A o ho w
  subst hb
  unfold execOp
  simp only [ho]
  rw [A x _ hx, A z _ hy]
  rfl
theorem p_int {op : BinOp} {t t' : TypeId} {x y : Operand} {k : IntKind} {m n : Int} {v : Value} (hx : ev F x = some (.int k m)) (hy : ev F y = some (.int k n))
    (h : ∀ w, (binOp op t (.int k m) (.int k n)).run P w = .ok v w) : Pure P F (.binOp op t x y t') v := by
  intro ρ A o ho w
  unfold execOp
  simp only [ho]
  rw [A x _ hx, A y _ hy]
  refine run_v ?_
  have he : (eqGuard op t x y (.int k m) (.int k n)).run P w = .ok () w := by
    unfold eqGuard
    cases op <;> rfl
  show ((eqGuard op t x y (.int k m) (.int k n)) >>= fun _ => binOp op t (.int k m) (.int k n)).run P w = _
  rw [Sem.run_bind, he]
  exact h w
theorem p_add {t t' : TypeId} {x y : Operand} {k : IntKind} {m n r : Int} (hx : ev F x = some (.int k m)) (hy : ev F y = some (.int k n)) (hr : k.wrap (m + n) = r) : Pure P F (.binOp .add t x y t') (.int k r) :=
  p_int hx hy fun w => by subst hr; simp [binOp, Op.intArith]
theorem p_sub {t t' : TypeId} {x y : Operand} {k : IntKind} {m n r : Int} (hx : ev F x = some (.int k m)) (hy : ev F y = some (.int k n)) (hr : k.wrap (m - n) = r) : Pure P F (.binOp .sub t x y t') (.int k r) :=
  p_int hx hy fun w => by subst hr; simp [binOp, Op.intArith]
theorem p_mul {t t' : TypeId} {x y : Operand} {k : IntKind} {m n r : Int} (hx : ev F x = some (.int k m)) (hy : ev F y = some (.int k n)) (hr : k.wrap (m * n) = r) : Pure P F (.binOp .mul t x y t') (.int k r) :=
  p_int hx hy fun w => by subst hr; simp [binOp, Op.intArith]
theorem p_quo {t t' : TypeId} {x y : Operand} {k : IntKind} {m n r : Int} (hx : ev F x = some (.int k m)) (hy : ev F y = some (.int k n)) (hn : n ≠ 0) (hr : k.wrap (m.tdiv n) = r) : Pure P F (.binOp .quo t x y t') (.int k r) :=
  p_int hx hy fun w => by subst hr; simp [binOp, Op.intDiv, hn]
theorem p_rem {t t' : TypeId} {x y : Operand} {k : IntKind} {m n r : Int} (hx : ev F x = some (.int k m)) (hy : ev F y = some (.int k n)) (hn : n ≠ 0) (hr : m.tmod n = r) : Pure P F (.binOp .rem t x y t') (.int k r) :=
  p_int hx hy fun w => by subst hr; simp [binOp, Op.intDiv, hn]
theorem p_and {t t' : TypeId} {x y : Operand} {k : IntKind} {m n r : Int} (hx : ev F x = some (.int k m)) (hy : ev F y = some (.int k n)) (hr : k.wrap (BitVec.ofInt k.bits m &&& BitVec.ofInt k.bits n).toNat = r) : Pure P F (.binOp .and t x y t') (.int k r) :=
  p_int hx hy fun w => by subst hr; simp [binOp, Op.intBits]
theorem p_or {t t' : TypeId} {x y : Operand} {k : IntKind} {m n r : Int} (hx : ev F x = some (.int k m)) (hy : ev F y = some (.int k n)) (hr : k.wrap (BitVec.ofInt k.bits m ||| BitVec.ofInt k.bits n).toNat = r) : Pure P F (.binOp .or t x y t') (.int k r) :=
  p_int hx hy fun w => by subst hr; simp [binOp, Op.intBits]
theorem p_xor {t t' : TypeId} {x y : Operand} {k : IntKind} {m n r : Int} (hx : ev F x = some (.int k m)) (hy : ev F y = some (.int k n)) (hr : k.wrap (BitVec.ofInt k.bits m ^^^ BitVec.ofInt k.bits n).toNat = r) : Pure P F (.binOp .xor t x y t') (.int k r) :=
  p_int hx hy fun w => by subst hr; simp [binOp, Op.intBits]
theorem p_andnot {t t' : TypeId} {x y : Operand} {k : IntKind} {m n r : Int} (hx : ev F x = some (.int k m)) (hy : ev F y = some (.int k n)) (hr : k.wrap (BitVec.ofInt k.bits m &&& ~~~ BitVec.ofInt k.bits n).toNat = r) : Pure P F (.binOp .andNot t x y t') (.int k r) :=
  p_int hx hy fun w => by subst hr; simp [binOp, Op.intBits]
theorem p_shl {t t' : TypeId} {x y : Operand} {k k' : IntKind} {m n r : Int} (hx : ev F x = some (.int k m)) (hy : ev F y = some (.int k' n)) (hn : 0 ≤ n) (hr : k.wrap (m * 2 ^ (min n.toNat k.bits)) = r) : Pure P F (.binOp .shl t x y t') (.int k r) := by
  intro ρ A o ho w
  unfold execOp
  simp only [ho]
  rw [A x _ hx, A y _ hy]
  refine run_v ?_
  show ((eqGuard .shl t x y (.int k m) (.int k' n)) >>= fun _ => binOp .shl t (.int k m) (.int k' n)).run P w = _
  rw [Sem.run_bind, show (eqGuard .shl t x y (.int k m) (.int k' n)).run P w = .ok () w from rfl]
  subst hr
  show (Op.shift .shl k m k' n).run P w = _
  simp [Op.shift, show ¬ n < 0 by omega]
theorem p_shr {t t' : TypeId} {x y : Operand} {k k' : IntKind} {m n r : Int} (hx : ev F x = some (.int k m)) (hy : ev F y = some (.int k' n)) (hn : 0 ≤ n) (hr : m.fdiv (2 ^ (min n.toNat k.bits)) = r) : Pure P F (.binOp .shr t x y t') (.int k r) := by
  intro ρ A o ho w
  unfold execOp
  simp only [ho]
  rw [A x _ hx, A y _ hy]
  refine run_v ?_
  show ((eqGuard .shr t x y (.int k m) (.int k' n)) >>= fun _ => binOp .shr t (.int k m) (.int k' n)).run P w = _
  rw [Sem.run_bind, show (eqGuard .shr t x y (.int k m) (.int k' n)).run P w = .ok () w from rfl]
  subst hr
  show (Op.shift .shr k m k' n).run P w = _
  simp [Op.shift, show ¬ n < 0 by omega]
theorem p_lss {t t' : TypeId} {x y : Operand} {k : IntKind} {m n : Int} (hx : ev F x = some (.int k m)) (hy : ev F y = some (.int k n)) : Pure P F (.binOp .lss t x y t') (.bool (decide (m < n))) :=
  p_int hx hy fun w => by simp [binOp, Op.intCmp]
theorem p_leq {t t' : TypeId} {x y : Operand} {k : IntKind} {m n : Int} (hx : ev F x = some (.int k m)) (hy : ev F y = some (.int k n)) : Pure P F (.binOp .leq t x y t') (.bool (decide (m ≤ n))) :=
  p_int hx hy fun w => by simp [binOp, Op.intCmp]
theorem p_gtr {t t' : TypeId} {x y : Operand} {k : IntKind} {m n : Int} (hx : ev F x = some (.int k m)) (hy : ev F y = some (.int k n)) : Pure P F (.binOp .gtr t x y t') (.bool (decide (m > n))) :=
  p_int hx hy fun w => by simp [binOp, Op.intCmp]
theorem p_geq {t t' : TypeId} {x y : Operand} {k : IntKind} {m n : Int} (hx : ev F x = some (.int k m)) (hy : ev F y = some (.int k n)) : Pure P F (.binOp .geq t x y t') (.bool (decide (m ≥ n))) :=
  p_int hx hy fun w => by simp [binOp, Op.intCmp]
theorem p_eql {t t' : TypeId} {x y : Operand} {k : IntKind} {m n : Int} (hx : ev F x = some (.int k m)) (hy : ev F y = some (.int k n)) : Pure P F (.binOp .eql t x y t') (.bool (m == n)) :=
  p_int hx hy fun w => by simp [binOp, Op.intCmp]
theorem p_neq {t t' : TypeId} {x y : Operand} {k : IntKind} {m n : Int} (hx : ev F x = some (.int k m)) (hy : ev F y = some (.int k n)) : Pure P F (.binOp .neq t x y t') (.bool (m != n)) :=
  p_int hx hy fun w => by simp [binOp, Op.intCmp]
/-- Whatever the operation: its run is told. -/
theorem p_run {op : Op} {v : Value} (h : ∀ (ρ : Operand → Value), Agree F ρ → ∀ (o : Oper), o.op = op → ∀ w, (execOp ρ o).run P w = .ok (.value v) w) : Pure P F op v := h
theorem p_bin {op : BinOp} {t t' : TypeId} {x y : Operand} {u u' v : Value} (hx : ev F x = some u) (hy : ev F y = some u')
    (he : ∀ w, (eqGuard op t x y u u').run P w = .ok () w) (h : ∀ w, (binOp op t u u').run P w = .ok v w) : Pure P F (.binOp op t x y t') v := by
  intro ρ A o ho w
  unfold execOp
  simp only [ho]
  rw [A x _ hx, A y _ hy]
  refine run_v ?_
  show ((eqGuard op t x y u u') >>= fun _ => binOp op t u u').run P w = _
  rw [Sem.run_bind, he w]
  exact h w
theorem p_not {t : TypeId} {x : Operand} {b : Bool} (hx : ev F x = some (.bool b)) : Pure P F (.unOp .not t x) (.bool (!b)) := by
  intro ρ A o ho w
  unfold execOp
  simp only [ho]
  rw [A x _ hx]
  rfl
theorem p_un {op : UnOp} {t : TypeId} {x : Operand} {u v : Value} (hx : ev F x = some u) (h : ∀ w, (Op.unary op u).run P w = .ok v w) : Pure P F (.unOp op t x) v := by
  intro ρ A o ho w
  unfold execOp
  simp only [ho]
  rw [A x _ hx]
  exact run_v (h w)
theorem p_extract {x : Operand} {i : Nat} {vs : Array Value} {v : Value} (hx : ev F x = some (.tuple vs)) (hv : vs[i]? = some v) : Pure P F (.extract x i) v := by
  intro ρ A o ho w
  unfold execOp
  simp only [ho]
  rw [A x _ hx]
  refine run_v ?_
  simp [Instr.extract, hv]
theorem p_nilCheck {x : Operand} {ad : Addr} (hx : ev F x = some (.pointer (some ad))) : Pure P F (.nilCheck x) (.pointer (some ad)) := by
  intro ρ A o ho w
  unfold execOp
  simp only [ho]
  rw [A x _ hx]
  rfl
theorem p_fieldAddr {s : TypeId} {x : Operand} {i : Nat} {u v : Value} (hx : ev F x = some u) (h : ∀ w, (Instr.fieldAt s u i).run P w = .ok v w) : Pure P F (.fieldAddr s x i) v := by
  intro ρ A o ho w
  unfold execOp
  simp only [ho]
  rw [A x _ hx]
  exact run_v (h w)
theorem p_field {s : TypeId} {x : Operand} {i : Nat} {u v : Value} (hx : ev F x = some u) (h : ∀ w, (Instr.field s u i).run P w = .ok v w) : Pure P F (.field s x i) v := by
  intro ρ A o ho w
  unfold execOp
  simp only [ho]
  rw [A x _ hx]
  exact run_v (h w)
theorem p_indexAddr {s : TypeId} {x y : Operand} {u u' v : Value} (hx : ev F x = some u) (hy : ev F y = some u') (h : ∀ w, (Instr.indexAt s u u').run P w = .ok v w) : Pure P F (.indexAddr s x y) v := by
  intro ρ A o ho w
  unfold execOp
  simp only [ho]
  rw [A x _ hx, A y _ hy]
  exact run_v (h w)
theorem p_index {s : TypeId} {x y : Operand} {u u' v : Value} (hx : ev F x = some u) (hy : ev F y = some u') (h : ∀ w, (Instr.index s u u').run P w = .ok v w) : Pure P F (.index s x y) v := by
  intro ρ A o ho w
  unfold execOp
  simp only [ho]
  rw [A x _ hx, A y _ hy]
  exact run_v (h w)
theorem p_conv {s t : TypeId} {x : Operand} {u v : Value} (hx : ev F x = some u) (h : ∀ w, (convert s t u).run P w = .ok v w) : Pure P F (.convert s t x) v := by
  intro ρ A o ho w
  unfold execOp
  simp only [ho]
  rw [A x _ hx]
  exact run_v (h w)
theorem p_iface {t : TypeId} {x : Operand} {u v : Value} (hx : ev F x = some u) (h : ∀ w, (Instr.makeInterface t u).run P w = .ok v w) : Pure P F (.makeInterface t x) v := by
  intro ρ A o ho w
  unfold execOp
  simp only [ho]
  rw [A x _ hx]
  exact run_v (h w)
theorem p_assert {s t : TypeId} {x : Operand} {b : Bool} {u v : Value} (hx : ev F x = some u) (h : ∀ w, (Instr.typeAssert u s t b).run P w = .ok v w) : Pure P F (.typeAssert x s t b) v := by
  intro ρ A o ho w
  unfold execOp
  simp only [ho]
  rw [A x _ hx]
  exact run_v (h w)
theorem p_func {fn : Fn} {xs ys : List Operand} {us vs : List Value} (hx : evs F xs = some us) (hy : evs F ys = some vs) : Pure P F (.makeFunc fn xs.toArray ys.toArray) (.func fn us.toArray vs.toArray) := by
  intro ρ A o ho w
  unfold execOp
  simp only [ho]
  rw [List.map_toArray, List.map_toArray, A.list hx, A.list hy]
  rfl
theorem p_slice {t : TypeId} {x : Operand} {lo hi mx : Option Operand} {u v : Value} {l h m : Option Value} (hx : ev F x = some u) (hl : ∀ ρ, Agree F ρ → lo.map ρ = l) (hh : ∀ ρ, Agree F ρ → hi.map ρ = h) (hm : ∀ ρ, Agree F ρ → mx.map ρ = m)
    (hr : ∀ w, (Instr.sliceAt t u l h m).run P w = .ok v w) : Pure P F (.slice t x lo hi mx) v := by
  intro ρ A o ho w
  unfold execOp
  simp only [ho]
  rw [A x _ hx, hl ρ A, hh ρ A, hm ρ A]
  exact run_v (hr w)
theorem o_none {ρ : Operand → Value} : (none : Option Operand).map ρ = none := rfl
theorem o_some {x : Operand} {v : Value} (hx : ev F x = some v) : ∀ ρ, Agree F ρ → (some x).map ρ = some v := fun ρ A => by simp [A x v hx]
theorem p_builtin {b : Builtin} {xs : List Operand} {ts : Array TypeId} {vs : List Value} {v : Value} (hx : evs F xs = some vs)
    (h : ∀ (t : TypeId) (cs : Array Bool) w, (builtin b ts t cs vs.toArray).run P w = .ok (.value v) w) : Pure P F (.call { callee := .builtin b, args := xs.toArray, argTypes := ts }) v := by
  intro ρ A o ho w
  unfold execOp
  simp only [ho, resolve, List.map_toArray, A.list hx]
  exact h _ _ w
theorem p_len_slice {x : Operand} {ts : Array TypeId} {A : Option Addr} {n c : Nat} {t : TypeId} {u : TypeDesc} (hx : ev F x = some (.slice A n c)) (h : ∀ (t : TypeId) (cs : Array Bool) w, (builtin .len ts t cs #[.slice A n c]).run P w = .ok (.value (.int .i64 n)) w) : Pure P F (.call { callee := .builtin .len, args := #[x], argTypes := ts }) (.int .i64 n) :=
  p_builtin (xs := [x]) (vs := [.slice A n c]) (by simp [evs, hx]) h
/-- A cell of the list's. -/
theorem r_load {t : TypeId} {x : Operand} {g j : Nat} {cs : Array Value} {tt : TypeId} {f : Nat × Nat} {v : Value} (hx : ev F x = some (.pointer (some ⟨g, j, none⟩))) (hm : (g, Obj.cells cs tt f) ∈ L) (hv : cs[j]? = some v)
    (h : ∀ w, w.cell? ⟨g, j, none⟩ = some v → (Instr.loadAt t (.pointer (some ⟨g, j, none⟩))).run P w = .ok v w) : Reads P F B w0 L (.load t x) v := by
  intro ρ A o ho w H
  unfold execOp
  simp only [ho]
  rw [A x _ hx]
  refine run_v (h w ?_)
  have := H.at_ _ hm
  simp [World.cell?, this, hv]
/-- Whatever is read there. -/
theorem r_loads {t : TypeId} {x : Operand} {p : Addr} {v : Value} (hx : ev F x = some (.pointer (some p))) (h : ∀ w, HH B w0 w L → (Instr.loadAt t (.pointer (some p))).run P w = .ok v w) : Reads P F B w0 L (.load t x) v := by
  intro ρ A o ho w H
  unfold execOp
  simp only [ho]
  rw [A x _ hx]
  exact run_v (h w H)
theorem r_run {op : Op} {v : Value} (h : ∀ (ρ : Operand → Value), Agree F ρ → ∀ (o : Oper), o.op = op → ∀ w, HH B w0 w L → (execOp ρ o).run P w = .ok (.value v) w) : Reads P F B w0 L op v := h
end

/-! ### the steps of a region that draws nothing -/
section
variable {P : Program} {ops : Array Oper} {rest : List Oper} {o : Oper} {a : Act} {Q : Exit → Act → World → Prop} {B : Nat} {w0 w : World} {L L' : List (Nat × Obj)} {n d : Nat} {ds : List Deferred} {F : List (Nat × Value)}
/-- It computes, or reads. -/
theorem l_read {v : Value} (S : SL a n ds F) (H : HH B w0 w L) (hp : Reads P F B w0 L o.op v) (hg : o.guard = none) (hd : o.dst = some d) (hn : Nat.blt d n = true) (h : ∀ a, SL a n ds ((d, v) :: F) → wpList P ops Q rest a w) : wpList P ops Q (o :: rest) a w := by
  refine sv hg (hp _ S.agree o rfl w H) ?_
  rw [hd]
  exact h _ (S.put hn v)
theorem l_pure {v : Value} (S : SL a n ds F) (hp : Pure P F o.op v) (hg : o.guard = none) (hd : o.dst = some d) (hn : Nat.blt d n = true) (h : ∀ a, SL a n ds ((d, v) :: F) → wpList P ops Q rest a w) : wpList P ops Q (o :: rest) a w := by
  refine sv hg (hp _ S.agree o rfl w) ?_
  rw [hd]
  exact h _ (S.put hn v)
/-- It yields a value, and the world is another one. -/
theorem l_event {w1 : World} {v : Value} (S : SL a n ds F) (hr : ∀ ρ, Agree F ρ → (execOp ρ o).run P w = .ok (.value v) w1) (hg : o.guard = none) (hd : o.dst = some d) (hn : Nat.blt d n = true) (h : ∀ a, SL a n ds ((d, v) :: F) → wpList P ops Q rest a w1) : wpList P ops Q (o :: rest) a w := by
  refine sv hg (hr _ S.agree) ?_
  rw [hd]
  exact h _ (S.put hn v)
/-- It yields nothing, and the world is another one. -/
theorem l_skip {w1 : World} (S : SL a n ds F) (hr : ∀ ρ, Agree F ρ → (execOp ρ o).run P w = .ok .skip w1) (hg : o.guard = none) (hd : o.dst = none) (h : ∀ a, SL a n ds F → wpList P ops Q rest a w1) : wpList P ops Q (o :: rest) a w :=
  ss hg (hr _ S.agree) hd (h _ S)
/-- A new variable of a type whose zero is known. -/
theorem l_alloc {t : TypeId} {cs : Array Value} (S : SL a n ds F) (H : HH B w0 w L) (ho : o.op = .alloc t) (hr : ∀ w : World, (Instr.alloc t true (.tuple #[])).run P w = .ok (.pointer (some ⟨w.heap.size, 0, none⟩)) (w.alloc (.cells cs t (0, 0))))
    (hg : o.guard = none) (hd : o.dst = some d) (hn : Nat.blt d n = true) (h : ∀ g w a, HH B w0 w ((g, .cells cs t (0, 0)) :: L) → SL a n ds ((d, .pointer (some ⟨g, 0, none⟩)) :: F) → wpList P ops Q rest a w) : wpList P ops Q (o :: rest) a w := by
  refine l_event S (v := .pointer (some ⟨w.heap.size, 0, none⟩)) (w1 := w.alloc (.cells cs t (0, 0))) (fun ρ A => ?_) hg hd hn (fun a S' => h _ _ a (H.alloc _) S')
  unfold execOp
  simp only [ho]
  exact run_v (hr w)
/-- A variable that holds a value at once. -/
theorem l_box {t : TypeId} {x : Operand} {v : Value} {cs : Array Value} (S : SL a n ds F) (H : HH B w0 w L) (ho : o.op = .box t x) (hx : ev F x = some v) (hr : ∀ w : World, (Instr.box t v).run P w = .ok (.pointer (some ⟨w.heap.size, 0, none⟩)) (w.alloc (.cells cs t (0, 0))))
    (hg : o.guard = none) (hd : o.dst = some d) (hn : Nat.blt d n = true) (h : ∀ g w a, HH B w0 w ((g, .cells cs t (0, 0)) :: L) → SL a n ds ((d, .pointer (some ⟨g, 0, none⟩)) :: F) → wpList P ops Q rest a w) : wpList P ops Q (o :: rest) a w := by
  refine l_event S (v := .pointer (some ⟨w.heap.size, 0, none⟩)) (w1 := w.alloc (.cells cs t (0, 0))) (fun ρ A => ?_) hg hd hn (fun a S' => h _ _ a (H.alloc _) S')
  unfold execOp
  simp only [ho]
  rw [A x v hx]
  exact run_v (hr w)
/-- A store into one cell of the list's. -/
theorem l_store {t : TypeId} {x y : Operand} {g j : Nat} {cs : Array Value} {tt : TypeId} {v : Value} (S : SL a n ds F) (H : HH B w0 w L) (ho : o.op = .store t x y) (hx : ev F x = some (.pointer (some ⟨g, j, none⟩))) (hy : ev F y = some v)
    (hu : Upd L g (.cells cs tt (0, 0)) (.cells (cs.setIfInBounds j v) tt (0, 0)) L') (hj : j < cs.size)
    (hr : ∀ (w : World) u, w.cell? ⟨g, j, none⟩ = some u → w.frozen? ⟨g, j, none⟩ = false → (Instr.storeAt t (.pointer (some ⟨g, j, none⟩)) v).run P w = .ok () (w.setCell ⟨g, j, none⟩ v))
    (hg : o.guard = none) (hd : o.dst = none) (h : ∀ w a, HH B w0 w L' → SL a n ds F → wpList P ops Q rest a w) : wpList P ops Q (o :: rest) a w := by
  refine l_skip S (w1 := w.setCell ⟨g, j, none⟩ v) (fun ρ A => ?_) hg hd (fun a S' => h _ a (H.set hu) S')
  unfold execOp
  simp only [ho]
  rw [A x _ hx, A y _ hy]
  show ((Instr.storeAt t (.pointer (some ⟨g, j, none⟩)) v) >>= fun _ => pure Next.skip).run P w = _
  rw [Sem.run_bind, hr w cs[j] ((H.cell hu j).trans (by simp [hj])) (H.thaw hu j)]
  rfl
/-- A call of a Go function, by its contract. -/
theorem l_call {f : FuncId} {fn : Func} {xs : List Operand} {ts : Array TypeId} {vs : List Value} {R : Ending → World → Prop} (S : SL a n ds F) (ho : o.op = .call { callee := .value (.func f), args := xs.toArray, argTypes := ts }) (hx : evs F xs = some vs)
    (hf : P.funcs[f]? = some fn) (hname : (fn.name == "runtime.NumGoroutine") = false) (hb : fn.body.isSome = true)
    (hc : Calls P f vs.toArray w R) (hg : o.guard = none) (hd : o.dst = some d) (hn : Nat.blt d n = true)
    (h : ∀ e w, R e w → ∃ v, e = .returned v ∧ ∀ a, SL a n ds ((d, v) :: F) → wpList P ops Q rest a w) : wpList P ops Q (o :: rest) a w := by
  refine YtnmelglnkefjfaaDoorW.PrintLast.goesL_ (some d) hd hg hf hname hb vs.toArray ho (by rw [List.map_toArray, S.agree.list hx]) (hc.mono ?_)
  intro e w1 hr
  obtain ⟨v, he, hk⟩ := h e w1 hr
  exact ⟨v, he, hk _ (S.put hn v)⟩
/-- The same where no result is kept. -/
theorem l_call0 {f : FuncId} {fn : Func} {xs : List Operand} {ts : Array TypeId} {vs : List Value} {R : Ending → World → Prop} (S : SL a n ds F) (ho : o.op = .call { callee := .value (.func f), args := xs.toArray, argTypes := ts }) (hx : evs F xs = some vs)
    (hf : P.funcs[f]? = some fn) (hname : (fn.name == "runtime.NumGoroutine") = false) (hb : fn.body.isSome = true)
    (hc : Calls P f vs.toArray w R) (hg : o.guard = none) (hd : o.dst = none)
    (h : ∀ e w, R e w → ∃ v, e = .returned v ∧ ∀ a, SL a n ds F → wpList P ops Q rest a w) : wpList P ops Q (o :: rest) a w := by
  refine YtnmelglnkefjfaaDoorW.PrintLast.goesL_ none hd hg hf hname hb vs.toArray ho (by rw [List.map_toArray, S.agree.list hx]) (hc.mono ?_)
  intro e w1 hr
  obtain ⟨v, he, hk⟩ := h e w1 hr
  exact ⟨v, he, hk _ S⟩
/-- A deferred call of a function value. -/
theorem l_defer {x : Operand} {xs : List Operand} {ts : Array TypeId} {fn : Fn} {us cs vs : List Value} (S : SL a n ds F) (ho : o.op = .defer { callee := .value x, args := xs.toArray, argTypes := ts }) (hx : ev F x = some (.func fn us.toArray cs.toArray)) (hxs : evs F xs = some vs)
    (hg : o.guard = none) (hd : o.dst = none) (h : ∀ a, SL a n ({ target := .fn fn cs.toArray, args := (us ++ vs).toArray } :: ds) F → wpList P ops Q rest a w) : wpList P ops Q (o :: rest) a w := by
  refine wpList_plain hg fun K hK => ?_
  unfold Oper.wp
  have hr : (execOp a.eval o).run P w = .ok (.defer { target := .fn fn cs.toArray, args := (us ++ vs).toArray }) w := by
    unfold execOp
    simp only [ho, resolve, List.map_toArray, S.agree.list hxs]
    rw [S.agree x _ hx]
    simp [Deferred.ofValue]
  rw [hr, Oper.upon_defer, hd]
  exact hK _ _ (h _ ⟨S.size, by show _ :: a.defers = _; rw [S.defers], S.at_⟩)
/-- A test that guards what follows: both ways. -/
theorem l_split {i : Nat} {c : Bool} (hs : slot F i = some (.bool c)) (h1 : c = true → wpList P ops Q rest a w) (h2 : c = false → wpList P ops Q rest a w) : wpList P ops Q rest a w := by
  cases c
  · exact h2 rfl
  · exact h1 rfl
theorem yields_ {oj : Oper} {j dj : Nat} {c b : Bool} (S : SL a n ds F) (hg : o.guard = some (j, b)) (hj : ops[j]? = some oj) (hd : oj.dst = some dj) (hs : slot F dj = some (.bool c)) : Region.wanted o (yielded ops a.tmps) = (c == b) := by
  unfold Region.wanted
  rw [hg]
  simp only [yielded, hj, hd, Option.bind_some, S.at_ dj _ hs]
  cases c <;> cases b <;> rfl
theorem l_on {oj : Oper} {j dj : Nat} {c b : Bool} (S : SL a n ds F) (hg : o.guard = some (j, b)) (hj : ops[j]? = some oj) (hd : oj.dst = some dj) (hs : slot F dj = some (.bool c)) (hc : c = b)
    (h : wpList P ops Q ({ o with guard := none } :: rest) a w) : wpList P ops Q (o :: rest) a w := by
  have hw : Region.wanted o (yielded ops a.tmps) = true := by rw [yields_ S hg hj hd hs, hc]; simp
  have hw2 : Region.wanted { o with guard := none } (yielded ops a.tmps) = true := rfl
  unfold wpList at h ⊢
  rw [if_pos hw2] at h
  rw [if_pos hw]
  exact h
theorem l_off {oj : Oper} {j dj : Nat} {c b : Bool} (S : SL a n ds F) (hg : o.guard = some (j, b)) (hj : ops[j]? = some oj) (hdj : oj.dst = some dj) (hs : slot F dj = some (.bool c)) (hc : c = !b) (hd : o.dst = some d) (hn : Nat.blt d n = true)
    (h : ∀ a, SL a n ds ((d, undef) :: F) → wpList P ops Q rest a w) : wpList P ops Q (o :: rest) a w := by
  have hw : Region.wanted o (yielded ops a.tmps) = false := by rw [yields_ S hg hj hdj hs, hc]; cases b <;> rfl
  unfold wpList
  rw [hw, hd]
  exact h _ (S.put hn undef)
theorem l_off0 {oj : Oper} {j dj : Nat} {c b : Bool} (S : SL a n ds F) (hg : o.guard = some (j, b)) (hj : ops[j]? = some oj) (hdj : oj.dst = some dj) (hs : slot F dj = some (.bool c)) (hc : c = !b) (hd : o.dst = none)
    (h : wpList P ops Q rest a w) : wpList P ops Q (o :: rest) a w := by
  have hw : Region.wanted o (yielded ops a.tmps) = false := by rw [yields_ S hg hj hdj hs, hc]; cases b <;> rfl
  unfold wpList
  rw [hw, hd]
  exact h
/-- Nothing follows. -/
theorem l_nil (h : Q .normal a w) : wpList P ops Q [] a w := h
end

/-! ### code -/
section
variable {P : Program} {Q : Exit → Act → World → Prop} {K : Act → World → Prop} {a : Act} {w : World} {n : Nat} {ds : List Deferred} {F : List (Nat × Value)}
theorem e_then (h : K a w) : Exit.then K Q .normal a w := h
theorem e_then_ret (h : Q .ret a w) : Exit.then K Q .ret a w := h
theorem e_then_exit {i : Nat} (h : Q (.exit i) a w) : Exit.then K Q (.exit i) a w := h
theorem e_in (i : Nat) (h : Q .normal a w) : Exit.inBlock i Q .normal a w := h
theorem e_in_ret {i : Nat} (h : Q .ret a w) : Exit.inBlock i Q .ret a w := h
theorem e_in_exit {i : Nat} (h : Q .normal a w) : Exit.inBlock i Q (.exit i) a w := by simpa [Exit.inBlock] using h
theorem e_in_other {i j : Nat} (hij : Nat.beq j i = false) (h : Q (.exit j) a w) : Exit.inBlock i Q (.exit j) a w := by
  have : j ≠ i := Nat.ne_of_beq_eq_false hij
  simpa [Exit.inBlock, this] using h
theorem c_cond {c : Operand} {x y : Code} {b : Bool} (S : SL a n ds F) (hc : ev F c = some (.bool b)) (ht : b = true → x.wp P Q a w) (hf : b = false → y.wp P Q a w) : (Code.cond c x y).wp P Q a w :=
  wp_cond_split (S.agree c _ hc) ht hf
theorem c_region {id : Nat} {l : List Oper} (h : wpList P l.toArray Q l a w) : (Code.region id l.toArray false).wp P Q a w := wp_region_lit h
/-- A loop, by a relation over whatever letters. -/
theorem c_loop {σ : Type} {c : Code} (I : σ → Act → World → Prop) (μ : σ → Nat) (s0 : σ) (h0 : I s0 a w)
    (round : ∀ s a w, I s a w → c.wp P (Exit.then (fun a' w' => ∃ s', I s' a' w' ∧ μ s' < μ s) Q) a w) : (Code.loop c).wp P Q a w := by
  intro b k cs
  have key : ∀ m s a w, μ s = m → I s a w →
      ∃ e a' w', Q e a' w' ∧ Arrives P (lone (b.at a (.code c :: .inLoop c :: k)) cs w) b k cs e a' w' := by
    intro m
    induction m using Nat.strongRecOn with
    | _ m ih =>
      intro s a w hm hI
      obtain ⟨e, a₁, w₁, hq, harr⟩ := round s a w hI b (.inLoop c :: k) cs
      cases e with
      | normal =>
        obtain ⟨s', hI₁, hlt⟩ := hq
        obtain ⟨e₂, a₂, w₂, hq₂, harr₂⟩ := ih (μ s') (hm ▸ hlt) s' a₁ w₁ rfl hI₁
        exact ⟨e₂, a₂, w₂, hq₂, .of_steps (Steps.trans harr (.one step_inLoop)) harr₂⟩
      | exit id => exact ⟨_, a₁, w₁, hq, .pass (x := .inLoop c) rfl (fun _ _ => .inl (by simp)) harr⟩
      | goto l => exact ⟨_, a₁, w₁, hq, .pass (x := .inLoop c) rfl (fun _ _ => .inl (by simp)) harr⟩
      | ret => exact ⟨_, a₁, w₁, hq, .pass (x := .inLoop c) rfl (fun _ _ => .inl (by simp)) harr⟩
      | panic ch => exact ⟨_, a₁, w₁, hq, .pass (x := .inLoop c) rfl (fun _ _ => .inl (by simp)) harr⟩
      | outgrown => exact ⟨_, a₁, w₁, hq, .pass (x := .inLoop c) rfl (fun _ _ => .inl (by simp)) harr⟩
  obtain ⟨e, a', w', hq, harr⟩ := key _ s0 a w rfl h0
  exact ⟨e, a', w', hq, .of_steps (.one step_loop) harr⟩
/-- Ways that meet again: what holds there, shown once. -/
theorem c_cut {x y : Code} (J : Act → World → Prop) (hy : ∀ a w, J a w → y.wp P Q a w) (hx : x.wp P (Exit.then J Q) a w) : (Code.seq x y).wp P Q a w :=
  wp_seq (wp_mono hx (fun e a w h => by cases e <;> first | exact hy _ _ h | exact h))
theorem c_enter {f : FuncId} {fn : Func} {c : Code} {args : List Value} {k : Nat} {R : Ending → World → Prop} {F0 : List (Nat × Value)} (hf : P.funcs[f]? = some fn) (hb : fn.body = some c) (hk : fn.ntmps = args.length + k) (hF : enum 0 args = F0)
    (h : ∀ a, SL a (args.length + k) [] F0 → c.wp P (bodyPost P fn R) a w) : Calls P f args.toArray w R := by
  refine calls_of_wp hf hb (h _ ?_)
  have : fn.ntmps - args.toArray.size = k := by simp [hk]
  rw [this]
  exact SL.enter (by simpa using hF) (by simp)
theorem c_enter_d {f : FuncId} {fn : Func} {c : Code} {args : List Value} {k : Nat} {R : Ending → World → Prop} {F0 : List (Nat × Value)} (hf : P.funcs[f]? = some fn) (hb : fn.body = some c) (hk : fn.ntmps = args.length + k) (hF : enum 0 args = F0)
    (h : ∀ a, SL a (args.length + k) [] F0 → c.wp P (bodyPostD P fn R) a w) : Calls P f args.toArray w R := by
  refine calls_of_wp_defers hf hb (h _ ?_)
  have : fn.ntmps - args.toArray.size = k := by simp [hk]
  rw [this]
  exact SL.enter (by simpa using hF) (by simp)
theorem r_ret1 {fn : Func} {R : Ending → World → Prop} {t : Tmp} {v : Value} (S : SL a n [] F) (hr : fn.results = #[.tmp t]) (hv : slot F t = some v) (h : R (.returned v) w) : bodyPost P fn R .ret a w := by
  refine ⟨S.defers, v, ?_, h⟩
  rw [results_tmp hr]
  simp [S.at_ t v hv]
theorem r_ret0 {fn : Func} {R : Ending → World → Prop} (S : SL a n [] F) (hr : fn.results = #[]) (h : R (.returned (.tuple #[])) w) : bodyPost P fn R .ret a w := by
  refine ⟨S.defers, _, results_none hr _ _ _, h⟩
theorem r_end0 {fn : Func} {R : Ending → World → Prop} (S : SL a n [] F) (hr : fn.results = #[]) (h : R (.returned (.tuple #[])) w) : bodyPost P fn R .normal a w := by
  refine ⟨S.defers, _, results_none hr _ _ _, h⟩
theorem r_ret2 {fn : Func} {R : Ending → World → Prop} {t t' : Tmp} {v v' : Value} (S : SL a n [] F) (hr : fn.results = #[.tmp t, .tmp t']) (hv : slot F t = some v) (hv' : slot F t' = some v') (h : R (.returned (.tuple #[v, v'])) w) : bodyPost P fn R .ret a w := by
  refine ⟨S.defers, _, ?_, h⟩
  rw [results_tmp2 hr]
  simp [S.at_ t v hv, S.at_ t' v' hv']
theorem r_ret3 {fn : Func} {R : Ending → World → Prop} {t t' t'' : Tmp} {v v' v'' : Value} (S : SL a n [] F) (hr : fn.results = #[.tmp t, .tmp t', .tmp t'']) (hv : slot F t = some v) (hv' : slot F t' = some v') (hv'' : slot F t'' = some v'') (h : R (.returned (.tuple #[v, v', v''])) w) : bodyPost P fn R .ret a w := by
  refine ⟨S.defers, _, ?_, h⟩
  rw [results_tmp3 hr]
  simp [S.at_ t v hv, S.at_ t' v' hv', S.at_ t'' v'' hv'']
/-- The door of a function that defers one closure, which has nothing to recover. -/
theorem r_door {fn : Func} {R : Ending → World → Prop} {f : FuncId} {caps : List Value} {v : Value} (S : SL a n [{ target := .fn (.func f) caps.toArray, args := #[] }] F)
    (hidle : ∀ w, CallsD P f caps.toArray .returning w fun e u w' => e = .returned (.tuple #[]) ∧ u = .returning ∧ w' = w)
    (hrun : ∀ w, (invoke (.fn (.func f) caps.toArray) #[]).run P w = .ok (.enter f caps.toArray) w)
    (hres : ∀ tmps : Array Value, (∀ i v, slot F i = some v → tmps[i]? = some v) → (results fn tmps).run P w = .ok v w) (hR : R (.returned v) w) : bodyPostD P fn R .ret a w := by
  obtain ⟨tmps, dfs⟩ := a
  have hd : dfs = _ := S.defers
  subst hd
  exact door (hidle w) (hrun w) (hres tmps S.at_) hR
theorem invokes {f : FuncId} {fn : Func} {caps : Array Value} (hf : P.funcs[f]? = some fn) (hname : (fn.name == "runtime.NumGoroutine") = false) (hb : fn.body.isSome = true) : ∀ w, (invoke (.fn (.func f) caps) #[]).run P w = .ok (.enter f caps) w := by
  intro w
  have := YtnmelglnkefjfaaDoorW.PrintLast.enters_ hf hname hb caps w
  simpa [invoke] using this
end
end Go.Proofs.HHW
