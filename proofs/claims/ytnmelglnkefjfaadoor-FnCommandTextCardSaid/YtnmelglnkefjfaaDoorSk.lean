/- Words of this seat's own: bridges between the list of blocks and readings of slices of numbers, bools, texts. -/
import Derived.Test.YtnmelglnkefjfaaDoorSa
import Derived.Test.YtnmelglnkefjfaaDoorWWords
namespace Go.Proofs.HHW
open Go.RowKit YtnmelglnkefjfaaDoorW.PrintWords
set_option linter.unusedVariables false
set_option linter.unusedSimpArgs false
section
variable {P : Program} {B : Nat} {w0 w w' : World} {L : List (Nat × Obj)} {α : Type} {enc : α → Value} {h1 : ∀ x, (enc x).oneCell' = true}
theorem src_C {tx e' : TypeId} {A : Option Addr} {c : Nat} {xs : List α} (hk : P.underlying tx = some (.slice e')) (h : (Kd.scalar enc h1).C w A xs.length xs) : Src P 1 tx (.slice A xs.length c) xs.length (xs.map enc) w := by
  cases xs with
  | nil =>
    refine ⟨.inl ⟨e', hk⟩, fun _ => rfl, ?_, ?_, by simp, fun _ h => by cases h⟩ <;> cases A <;> simp [Builtin.firstCells, loadCells, loadCellsFrom]
  | cons x r =>
    obtain ⟨hl, _, hc0⟩ := h
    obtain ⟨ad, rfl, hc⟩ := hc0 (by simp)
    refine Src.ofSlice w hk ad _ c _ (by simp) (fun j u hj => ?_) (fun u hu => ?_)
    · obtain ⟨p, hp, rfl⟩ : ∃ p, (x :: r)[j]? = some p ∧ enc p = u := by rw [List.getElem?_map] at hj; exact Option.map_eq_some_iff.1 hj
      obtain ⟨cs, hlen, hK, hcell⟩ := hc j p hp
      have hK' : cs = [enc p] := hK
      subst hK'
      have := hcell 0 (enc p) rfl
      have hs : (Kd.scalar enc h1).sz = 1 := rfl
      rw [hs] at this
      simpa using this
    · obtain ⟨p, _, rfl⟩ := List.mem_map.1 hu
      exact h1 p
theorem C_own {g o : Nat} {cs : Array Value} {e : TypeId} {f : Nat × Nat} {xs : List α} (H : HH B w0 w L) (hm : (g, Obj.cells cs e f) ∈ L) (hl : xs.length ≤ 9223372036854775807) (hx : ∀ j x, xs[j]? = some x → cs[o + j]? = some (enc x)) : (Kd.scalar enc h1).C w (some ⟨g, o, none⟩) xs.length xs := by
  refine ⟨rfl, hl, fun _ => ⟨⟨g, o, none⟩, rfl, fun j p hj => ⟨[enc p], rfl, rfl, fun i u hi => ?_⟩⟩⟩
  have hs : (Kd.scalar enc h1).sz = 1 := rfl
  rw [hs, addp]
  cases i with
  | zero =>
    injection hi with hi
    subst hi
    have := H.at_ _ hm
    simp only at this
    simp only [World.cell?, this]
    simpa using hx j p hj
  | succ i => simp at hi
theorem C_later {A : Option Addr} {n : Nat} {d : Kd α} {xs : List α} (h : d.C w A n xs) (hb : Below w.heap.size w w') : d.C w' A n xs := ReadsRow.imp_ h hb (fun _ _ hk => d.K_below hb hk)
/-- A reading of what was there when the call began. -/
theorem C_old {A : Option Addr} {n : Nat} {d : Kd α} {xs : List α} (h : d.C w0 A n xs) (H : HH w0.heap.size w0 w L) : d.C w A n xs := C_later h H.below
end
section
variable {P : Program} {w : World} {t t' : TypeId}
theorem lv {B : Nat} {w0 : World} {L : List (Nat × Obj)} {g : Nat} {cs : Array Value} {e : TypeId} {f : Nat × Nat} {v : Value} (h : aggB P t = some false) (H : HH B w0 w L) (hm : (g, Obj.cells cs e f) ∈ L) (hv : cs[0]? = some v) : (loadVar t ⟨g, 0, none⟩).run P w = .ok v w := by
  have hat := H.at_ _ hm
  simp only at hat
  exact ld1 h (a := ⟨g, 0, none⟩) (by simp [World.cell?, hat, hv])
theorem res_c1 {F : List (Nat × Value)} {fn : Func} {a : Tmp} {t : TypeId} {ad : Addr} {v : Value} (hr : fn.results = #[.cell a t]) (ha : slot F a = some (.pointer (some ad))) (h1 : (loadVar t ad).run P w = .ok v w) :
    ∀ tmps : Array Value, (∀ i v, slot F i = some v → tmps[i]? = some v) → (results fn tmps).run P w = .ok v w := by
  intro tmps ht
  simp [results, hr, ht a _ ha, asAddr, Sem.run_bind, Result.andThen, h1]
theorem res_c2 {F : List (Nat × Value)} {fn : Func} {a b : Tmp} {t u : TypeId} {ad bd : Addr} {v v' : Value} (hr : fn.results = #[.cell a t, .cell b u]) (ha : slot F a = some (.pointer (some ad))) (hb : slot F b = some (.pointer (some bd)))
    (h1 : (loadVar t ad).run P w = .ok v w) (h2 : (loadVar u bd).run P w = .ok v' w) :
    ∀ tmps : Array Value, (∀ i v, slot F i = some v → tmps[i]? = some v) → (results fn tmps).run P w = .ok (.tuple #[v, v']) w := by
  intro tmps ht
  simp [results, hr, ht a _ ha, ht b _ hb, asAddr, Sem.run_bind, Result.andThen, h1, h2]
theorem res_c3 {F : List (Nat × Value)} {fn : Func} {a b c : Tmp} {t u s : TypeId} {ad bd cd : Addr} {v v' v'' : Value} (hr : fn.results = #[.cell a t, .cell b u, .cell c s]) (ha : slot F a = some (.pointer (some ad))) (hb : slot F b = some (.pointer (some bd))) (hc : slot F c = some (.pointer (some cd)))
    (h1 : (loadVar t ad).run P w = .ok v w) (h2 : (loadVar u bd).run P w = .ok v' w) (h3 : (loadVar s cd).run P w = .ok v'' w) :
    ∀ tmps : Array Value, (∀ i v, slot F i = some v → tmps[i]? = some v) → (results fn tmps).run P w = .ok (.tuple #[v, v', v'']) w := by
  intro tmps ht
  simp [results, hr, ht a _ ha, ht b _ hb, ht c _ hc, asAddr, Sem.run_bind, Result.andThen, h1, h2, h3]
theorem res_c4 {F : List (Nat × Value)} {fn : Func} {a b c d : Tmp} {t u s r : TypeId} {ad bd cd dd : Addr} {v v' v'' v3 : Value} (hr : fn.results = #[.cell a t, .cell b u, .cell c s, .cell d r]) (ha : slot F a = some (.pointer (some ad))) (hb : slot F b = some (.pointer (some bd))) (hc : slot F c = some (.pointer (some cd))) (hd : slot F d = some (.pointer (some dd)))
    (h1 : (loadVar t ad).run P w = .ok v w) (h2 : (loadVar u bd).run P w = .ok v' w) (h3 : (loadVar s cd).run P w = .ok v'' w) (h4 : (loadVar r dd).run P w = .ok v3 w) :
    ∀ tmps : Array Value, (∀ i v, slot F i = some v → tmps[i]? = some v) → (results fn tmps).run P w = .ok (.tuple #[v, v', v'', v3]) w := by
  intro tmps ht
  simp [results, hr, ht a _ ha, ht b _ hb, ht c _ hc, ht d _ hd, asAddr, Sem.run_bind, Result.andThen, h1, h2, h3, h4]
theorem cv_int {k k' : IntKind} {n r : Int} {d : TypeDesc} (hs : P.underlying t = some d) (ht : P.underlying t' = some (.int k')) (hr : k'.wrap n = r) : (convert t t' (.int k n)).run P w = .ok (.int k' r) w := by
  unfold convert
  rw [Sem.run_bind, run_underlying hs]
  simp only [Result.andThen]
  rw [Sem.run_bind, run_underlying ht]
  simp only [Result.andThen]
  subst hr
  rfl
theorem cv_str {s : ByteArray} (hs : P.underlying t = some .string) (ht : P.underlying t' = some .string) : (convert t t' (.string s)).run P w = .ok (.string s) w := by
  unfold convert
  rw [Sem.run_bind, run_underlying hs]
  simp only [Result.andThen]
  rw [Sem.run_bind, run_underlying ht]
  rfl
theorem not_eq_true_ {b : Bool} (h : (!b) = true) : b = false := by simpa using h
theorem not_eq_false_ {b : Bool} (h : (!b) = false) : b = true := by simpa using h
end
end Go.Proofs.HHW
