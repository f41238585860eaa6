/- Words of this seat's own: what loads, stores, new variables, elements and cuts do, by facts on their types. -/
import Derived.Test.YtnmelglnkefjfaaDoorSx
import Derived.Laws.BytesString
namespace Go.Proofs.HHW
open Go.RowKit
set_option linter.unusedVariables false
set_option linter.unusedSimpArgs false

def aggB (P : Program) (t : TypeId) : Option Bool := match P.underlying t with
  | some (.struct _) => some true
  | some (.array _ _) => some true
  | some _ => some false
  | none => none
def szB (P : Program) (t : TypeId) : Option Nat := (P.info? t).map (·.size)
def byB (P : Program) (t : TypeId) : Option Nat := (P.info? t).map (·.bytes)
def zvB (P : Program) (t : TypeId) : Option Value := (P.info? t).bind (·.zero)
section
variable {P : Program} {w : World} {t : TypeId}
theorem run_underlying {d : TypeDesc} (h : P.underlying t = some d) : (underlying t).run P w = .ok d w := by
  unfold underlying
  rw [Sem.run_bind, show (program.run P w) = .ok P w from rfl]
  show ((match P.underlying t with | some d => pure d | none => stuck "no such type") : Sem TypeDesc).run P w = _
  rw [h]
  rfl
theorem run_info {i : TypeInfo} (h : P.info? t = some i) : (typeInfo t).run P w = .ok i w := by
  unfold typeInfo
  rw [Sem.run_bind, show (program.run P w) = .ok P w from rfl]
  show ((match P.info? t with | some d => pure d | none => stuck "no such type") : Sem TypeInfo).run P w = _
  rw [h]
  rfl
theorem run_size {n : Nat} (h : szB P t = some n) : (sizeOf t).run P w = .ok n w := by
  obtain ⟨i, hi, rfl⟩ := Option.map_eq_some_iff.1 h
  unfold sizeOf
  rw [Sem.run_bind, run_info hi]
  rfl
theorem run_zero {v : Value} (h : zvB P t = some v) : (zeroValue t).run P w = .ok v w := by
  obtain ⟨i, hi, hz⟩ := Option.bind_eq_some_iff.1 h
  unfold zeroValue
  rw [Sem.run_bind, run_info hi]
  show ((match i.zero with | some v => pure v | none => unsupported (.resourceLimit "a value of more than 2^22 cells")) : Sem Value).run P w = _
  rw [hz]
  rfl
theorem run_agg {b : Bool} (h : aggB P t = some b) : (isAgg t).run P w = .ok b w := by
  unfold aggB at h
  cases hu : P.underlying t with
  | none => rw [hu] at h; cases h
  | some d =>
    unfold isAgg
    rw [Sem.run_bind, run_underlying hu]
    rw [hu] at h
    cases d <;> (injection h with h; subst h; rfl)
theorem run_load {a : Addr} {v : Value} (hc : w.cell? a = some v) : (load a).run P w = .ok v w := by
  show (Sem.load .plain a Sem.pure).run P w = _
  simp [Sem.run, hc]
theorem ld1 (h : aggB P t = some false) {a : Addr} {v : Value} (hc : w.cell? a = some v) : (Instr.loadAt t (.pointer (some a))).run P w = .ok v w := by
  unfold Instr.loadAt
  rw [Sem.run_bind, show (Instr.sureAddr (.pointer (some a))).run P w = .ok a w from rfl]
  show (loadVar t a).run P w = _
  unfold loadVar
  rw [Sem.run_bind, run_agg h]
  exact run_load hc
theorem run_loads (l : List Value) : ∀ (a : Addr) (i : Nat) (acc : Array Value), (∀ j v, l[j]? = some v → w.cell? (a.add (i + j)) = some v) → (loadCellsFrom a i l.length acc).run P w = .ok (acc ++ l.toArray) w := by
  induction l with
  | nil => intro a i acc _; simp [loadCellsFrom]
  | cons v r ih =>
    intro a i acc h
    show (loadCellsFrom a i (r.length + 1) acc).run P w = _
    unfold loadCellsFrom
    rw [Sem.run_bind, run_load (by simpa using h 0 v rfl)]
    show (loadCellsFrom a (i + 1) r.length (acc.push v)).run P w = _
    rw [ih a (i + 1) (acc.push v) (fun j u hj => by rw [show i + 1 + j = i + (j + 1) by omega]; exact h (j + 1) u hj)]
    simp
theorem ldn (h : aggB P t = some true) {cs : List Value} (hs : szB P t = some cs.length) {g o : Nat} (hc : ∀ j v, cs[j]? = some v → w.cell? ⟨g, o + j, none⟩ = some v) : (Instr.loadAt t (.pointer (some ⟨g, o, none⟩))).run P w = .ok (.agg cs.toArray) w := by
  unfold Instr.loadAt
  rw [Sem.run_bind, show (Instr.sureAddr (.pointer (some ⟨g, o, none⟩))).run P w = .ok ⟨g, o, none⟩ w from rfl]
  show (loadVar t ⟨g, o, none⟩).run P w = _
  unfold loadVar
  rw [Sem.run_bind, run_agg h]
  show ((do pure (.agg (← loadCells ⟨g, o, none⟩ (← sizeOf t)))) : Sem Value).run P w = _
  rw [Sem.run_bind, run_size hs]
  show ((loadCells ⟨g, o, none⟩ cs.length) >>= fun x => pure (Value.agg x)).run P w = _
  rw [Sem.run_bind]
  unfold loadCells
  rw [run_loads cs ⟨g, o, none⟩ 0 #[] (fun j v hj => ?_)]
  · simp [Result.andThen]
  · have : (⟨g, o, none⟩ : Addr).add (0 + j) = ⟨g, o + j, none⟩ := by unfold Addr.add; split <;> simp_all
    rw [this]
    exact hc j v hj
theorem run_store1 {a : Addr} {u v : Value} (hv : v.oneCell' = true) (hc : w.cell? a = some u) (hf : w.frozen? a = false) : (store a v).run P w = .ok () (w.setCell a v) := by
  show (Sem.store .plain a v (.pure ())).run P w = _
  cases v <;> first | (simp [Value.oneCell'] at hv; done) | (simp [Sem.run, hc, hf])
theorem cells_one {v : Value} (hv : v.oneCell' = true) : v.cells = #[v] := by
  cases v <;> first | rfl | (simp [Value.oneCell'] at hv)
theorem add0 (g o : Nat) : (⟨g, o, none⟩ : Addr).add 0 = ⟨g, o, none⟩ := rfl
theorem addp (g o n : Nat) : (⟨g, o, none⟩ : Addr).add n = ⟨g, o + n, none⟩ := by unfold Addr.add; split <;> simp_all
theorem st1 (hs : szB P t = some 1) {g o : Nat} {u v : Value} (hv : v.oneCell' = true) (hc : w.cell? ⟨g, o, none⟩ = some u) (hf : w.frozen? ⟨g, o, none⟩ = false) : (Instr.storeAt t (.pointer (some ⟨g, o, none⟩)) v).run P w = .ok () (w.setCell ⟨g, o, none⟩ v) := by
  unfold Instr.storeAt
  rw [Sem.run_bind, show (Instr.sureAddr (.pointer (some ⟨g, o, none⟩))).run P w = .ok ⟨g, o, none⟩ w from rfl]
  show (storeVar t ⟨g, o, none⟩ v).run P w = _
  unfold storeVar
  rw [Sem.run_bind, run_size hs]
  rw [cells_one hv]
  show (storeCells ⟨g, o, none⟩ [v]).run P w = _
  unfold storeCells
  rw [Sem.run_bind, add0, run_store1 hv hc hf]
  rfl
theorem al {z : Value} (hz : zvB P t = some z) : (Instr.alloc t true (.tuple #[])).run P w = .ok (.pointer (some ⟨w.heap.size, 0, none⟩)) (w.alloc (.cells z.cells t (0, 0))) := by
  unfold Instr.alloc
  rw [Sem.run_bind, run_zero hz]
  rfl
theorem bx {v : Value} : (Instr.box t v).run P w = .ok (.pointer (some ⟨w.heap.size, 0, none⟩)) (w.alloc (.cells v.cells t (0, 0))) := rfl
theorem ia_slice {e : TypeId} {k : IntKind} {i : Int} {g o n c s : Nat} (hu : P.underlying t = some (.slice e)) (hs : szB P e = some s) (h0 : 0 ≤ i) (h1 : i < n) :
    (Instr.indexAt t (.slice (some ⟨g, o, none⟩) n c) (.int k i)).run P w = .ok (.pointer (some ⟨g, o + i.toNat * s, none⟩)) w := by
  unfold Instr.indexAt
  rw [Sem.run_bind, show (asIntOf (.int k i)).run P w = .ok (k, i) w from rfl]
  simp only [Result.andThen]
  rw [Sem.run_bind, run_underlying hu]
  simp only [Result.andThen]
  rw [Sem.run_bind, show (pure (some (⟨g, o, none⟩ : Addr), n, e) : Sem (Option Addr × Nat × TypeId)).run P w = .ok (some ⟨g, o, none⟩, n, e) w from rfl]
  simp only [Result.andThen]
  rw [Sem.run_bind, run_underlying hu]
  simp only [Result.andThen]
  rw [if_pos ⟨h0, h1⟩, Sem.run_bind, run_size hs]
  simp only [Result.andThen]
  rw [addp]
  rfl
theorem ia_array {e : TypeId} {k : IntKind} {i : Int} {g o n s : Nat} (hu : P.underlying t = some (.array n e)) (hs : szB P e = some s) (h0 : 0 ≤ i) (h1 : i < n) :
    (Instr.indexAt t (.pointer (some ⟨g, o, none⟩)) (.int k i)).run P w = .ok (.pointer (some ⟨g, o + i.toNat * s, none⟩)) w := by
  unfold Instr.indexAt
  rw [Sem.run_bind, show (asIntOf (.int k i)).run P w = .ok (k, i) w from rfl]
  simp only [Result.andThen]
  rw [Sem.run_bind, run_underlying hu]
  simp only [Result.andThen]
  rw [Sem.run_bind, show (Instr.sureAddr (.pointer (some ⟨g, o, none⟩))).run P w = .ok ⟨g, o, none⟩ w from rfl]
  simp only [Result.andThen]
  rw [Sem.run_bind, show (pure (some (⟨g, o, none⟩ : Addr), n, e) : Sem (Option Addr × Nat × TypeId)).run P w = .ok (some ⟨g, o, none⟩, n, e) w from rfl]
  simp only [Result.andThen]
  rw [Sem.run_bind, run_underlying hu]
  simp only [Result.andThen]
  rw [if_pos ⟨h0, h1⟩, Sem.run_bind, run_size hs]
  simp only [Result.andThen]
  rw [addp]
  rfl
/-- A byte of a text. -/
def bt (s : ByteArray) (i : Int) : Int := if h : i.toNat < s.size then ((s[i.toNat]'h).toNat : Int) else 0
theorem bt_range (s : ByteArray) (i : Int) : 0 ≤ bt s i ∧ bt s i ≤ 255 := by
  unfold bt
  split
  · rename_i h
    have := (s[i.toNat]'h).toNat_lt
    omega
  · omega
theorem ix_string {k : IntKind} {i : Int} {s : ByteArray} (hu : P.underlying t = some .string) (h0 : 0 ≤ i) (h1 : i < s.size) :
    (Instr.index t (.string s) (.int k i)).run P w = .ok (.int .u8 (bt s i)) w := by
  unfold Instr.index
  rw [Sem.run_bind, show (asIntOf (.int k i)).run P w = .ok (k, i) w from rfl]
  simp only [Result.andThen]
  rw [Sem.run_bind, run_underlying hu]
  simp only [Result.andThen]
  rw [if_pos h0]
  have hi : i.toNat < s.size := by omega
  rw [getElem?_pos s i.toNat hi]
  simp [bt, hi]
theorem sl_string {k k' : IntKind} {l h : Int} {s : ByteArray} (hu : P.underlying t = some .string) (h0 : 0 ≤ l) (h1 : l ≤ h) (h2 : h ≤ s.size) :
    (Instr.sliceAt t (.string s) (some (.int k l)) (some (.int k' h)) none).run P w = .ok (.string (s.extract l.toNat h.toNat)) w := by
  unfold Instr.sliceAt
  rw [Sem.run_bind, run_underlying hu]
  show (Instr.slice t (.string s) (some (.int k l)) (some (.int k' h)) none).run P w = _
  unfold Instr.slice
  rw [Sem.run_bind, run_underlying hu]
  simp only [Result.andThen]
  have hh : 0 ≤ h := by omega
  obtain ⟨h', rfl⟩ := Int.eq_ofNat_of_zero_le hh
  obtain ⟨l', rfl⟩ := Int.eq_ofNat_of_zero_le h0
  have hl : l' ≤ h' := by omega
  have h3 : h' ≤ s.size := by omega
  simp [Instr.sliceBounds, Instr.sliceBound, asIntOf, Sem.run_bind, Result.andThen, h3, hl]
theorem sl_string_lo {k : IntKind} {l : Int} {s : ByteArray} (hu : P.underlying t = some .string) (h0 : 0 ≤ l) (h1 : l ≤ s.size) :
    (Instr.sliceAt t (.string s) (some (.int k l)) none none).run P w = .ok (.string (s.extract l.toNat s.size)) w := by
  unfold Instr.sliceAt
  rw [Sem.run_bind, run_underlying hu]
  show (Instr.slice t (.string s) (some (.int k l)) none none).run P w = _
  unfold Instr.slice
  rw [Sem.run_bind, run_underlying hu]
  simp only [Result.andThen]
  simp [Instr.sliceBounds, Instr.sliceBound, asIntOf, Sem.run_bind, Result.andThen, h0, h1]
theorem sl_string_hi {k : IntKind} {h : Int} {s : ByteArray} (hu : P.underlying t = some .string) (h0 : 0 ≤ h) (h1 : h ≤ s.size) :
    (Instr.sliceAt t (.string s) none (some (.int k h)) none).run P w = .ok (.string (s.extract 0 h.toNat)) w := by
  unfold Instr.sliceAt
  rw [Sem.run_bind, run_underlying hu]
  show (Instr.slice t (.string s) none (some (.int k h)) none).run P w = _
  unfold Instr.slice
  rw [Sem.run_bind, run_underlying hu]
  simp only [Result.andThen]
  simp [Instr.sliceBounds, Instr.sliceBound, asIntOf, Sem.run_bind, Result.andThen, h0, h1]
/-- A cut of a slice. -/
def cutAt (A : Option Addr) (c l s : Nat) : Option Addr := if c = l then A else A.map (·.add (l * s))
theorem sl_slice {e : TypeId} {s : Nat} {k k' : IntKind} {l h : Int} {A : Option Addr} {n c : Nat} (hu : P.underlying t = some (.slice e)) (hs : szB P e = some s) (h0 : 0 ≤ l) (h1 : l ≤ h) (h2 : h ≤ c) :
    (Instr.sliceAt t (.slice A n c) (some (.int k l)) (some (.int k' h)) none).run P w = .ok (.slice (cutAt A c l.toNat s) (h.toNat - l.toNat) (c - l.toNat)) w := by
  unfold Instr.sliceAt
  rw [Sem.run_bind, run_underlying hu]
  show (Instr.slice t (.slice A n c) (some (.int k l)) (some (.int k' h)) none).run P w = _
  unfold Instr.slice
  rw [Sem.run_bind, run_underlying hu]
  simp only [Result.andThen]
  have hh : 0 ≤ h := by omega
  obtain ⟨h', rfl⟩ := Int.eq_ofNat_of_zero_le hh
  obtain ⟨l', rfl⟩ := Int.eq_ofNat_of_zero_le h0
  have hl : l' ≤ h' := by omega
  have h3 : h' ≤ c := by omega
  simp [Instr.sliceBounds, Instr.sliceBound, asIntOf, Sem.run_bind, Result.andThen, h3, hl, run_size hs, cutAt]
theorem sl_slice_lo {e : TypeId} {s : Nat} {k : IntKind} {l : Int} {A : Option Addr} {n c : Nat} (hu : P.underlying t = some (.slice e)) (hs : szB P e = some s) (h0 : 0 ≤ l) (h1 : l ≤ n) :
    (Instr.sliceAt t (.slice A n c) (some (.int k l)) none none).run P w = .ok (.slice (cutAt A c l.toNat s) (n - l.toNat) (c - l.toNat)) w := by
  unfold Instr.sliceAt
  rw [Sem.run_bind, run_underlying hu]
  show (Instr.slice t (.slice A n c) (some (.int k l)) none none).run P w = _
  unfold Instr.slice
  rw [Sem.run_bind, run_underlying hu]
  simp only [Result.andThen]
  simp [Instr.sliceBounds, Instr.sliceBound, asIntOf, Sem.run_bind, Result.andThen, h0, h1, run_size hs, cutAt]
theorem sl_slice_hi {e : TypeId} {s : Nat} {k : IntKind} {h : Int} {A : Option Addr} {n c : Nat} (hu : P.underlying t = some (.slice e)) (hs : szB P e = some s) (h0 : 0 ≤ h) (h1 : h ≤ c) :
    (Instr.sliceAt t (.slice A n c) none (some (.int k h)) none).run P w = .ok (.slice A h.toNat c) w := by
  unfold Instr.sliceAt
  rw [Sem.run_bind, run_underlying hu]
  show (Instr.slice t (.slice A n c) none (some (.int k h)) none).run P w = _
  unfold Instr.slice
  rw [Sem.run_bind, run_underlying hu]
  simp only [Result.andThen]
  have : (A.map (·.add (0 * s))) = A := by cases A <;> simp [Addr.add]
  simp [Instr.sliceBounds, Instr.sliceBound, asIntOf, Sem.run_bind, Result.andThen, h0, h1, run_size hs]
  intro _
  cases A <;> simp [Addr.add]
end
end Go.Proofs.HHW
