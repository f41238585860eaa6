/- What a buffered reader over a text holds. -/
import Derived.Test.YtbahngfpadjbhaaDoorDc
namespace Go.Proofs.YtbahngfpadjbhaaDoor.bf
open Go.RowKit Go.Proofs.HHW Go.Proofs.YtbahngfpadjbhaaDoorW.PrintWords
set_option linter.unusedVariables false
set_option linter.unusedSimpArgs false
/-- The row of bytes that are in the buffer, from place r on. -/
def Row (cs : Array Value) (r : Nat) (vis : List Int) : Prop := ∀ (i : Nat) (v : Int), vis[i]? = some v → cs[r + i]? = some (Value.int .u8 v)
theorem first_cut {P : Program} {B : Nat} {w0 w : World} {L : List (Nat × Obj)} {gb r c x : Nat} {cs : Array Value} {te : TypeId} {f : Nat × Nat} {vis : List Int} (H : HH B w0 w L) (hm : (gb, Obj.cells cs te f) ∈ L) (h : Row cs r vis) (hc : c = r → vis = []) : First P (.slice (some ⟨gb, offAt 0 c r, none⟩) vis.length x) vis.length (vis.map (Value.int .u8)) w := by
  refine RB.first (fun i v hi => ?_)
  have hat := H.at_ _ hm
  simp only at hat
  have hlt := (List.getElem?_eq_some_iff.1 hi).1
  have hne : ¬ c = r := fun e => by rw [hc e] at hlt; simp at hlt
  unfold offAt
  rw [if_neg hne, Nat.zero_add]
  simp only [World.cell?, hat]
  exact h i v hi
theorem row0_spl {cs : Array Value} {vis : List Int} (h : vis.length ≤ cs.size) : Row (spl cs 0 (vis.map (Value.int .u8))) 0 vis := by
  intro i v hi
  rw [Nat.zero_add]
  exact dc.spl_row0 h i v hi
theorem row_more {cs : Array Value} {r : Nat} {vis t : List Int} (h : Row cs r vis) (hs : r + vis.length + t.length ≤ cs.size) : Row (spl cs (r + vis.length) (t.map (Value.int .u8))) r (vis ++ t) := by
  intro i v hi
  by_cases hl : i < vis.length
  · rw [List.getElem?_append_left hl] at hi
    rw [spl_out _ _ _ _ (.inl (by omega))]
    exact h i v hi
  · rw [List.getElem?_append_right (by omega)] at hi
    have hlt := (List.getElem?_eq_some_iff.1 hi).1
    have := spl_in (t.map (Value.int .u8)) cs (r + vis.length) (i - vis.length) (by rw [List.length_map]; exact hs) (by rw [List.length_map]; exact hlt)
    rw [show r + vis.length + (i - vis.length) = r + i by omega] at this
    rw [this, List.getElem?_map, hi]
    rfl
theorem row_drop {cs : Array Value} {r k : Nat} {vis : List Int} (h : Row cs r vis) : Row cs (r + k) (vis.drop k) := by
  intro i v hi
  rw [List.getElem?_drop] at hi
  rw [Nat.add_assoc]
  exact h _ v hi
/-- What is free behind the buffer's bytes. -/
theorem sl_free {P : Program} {t e : TypeId} {w : World} {k : IntKind} {g m c : Nat} {i : Int} (hu : P.underlying t = some (.slice e)) (hs : szB P e = some 1) (hi : i = (m : Int)) (hm : m < c) :
    (Instr.sliceAt t (.slice (some ⟨g, 0, none⟩) c c) (some (.int k i)) none none).run P w = .ok (.slice (some ⟨g, m, none⟩) (c - m) (c - m)) w := by
  rw [sl_lo hu hs hi (by omega)]
  have : cutAt (some ⟨g, 0, none⟩) c m 1 = some ⟨g, m, none⟩ := by
    rw [cutAt_off]
    unfold offAt
    rw [if_neg (by omega), Nat.zero_add]
  rw [this]
theorem sl_cut {P : Program} {t e : TypeId} {w : World} {k k' : IntKind} {g m h c : Nat} {i j : Int} (hu : P.underlying t = some (.slice e)) (hs : szB P e = some 1) (hi : i = (m : Int)) (hj : j = (h : Int)) (hm : m ≤ h) (hh : h ≤ c) :
    (Instr.sliceAt t (.slice (some ⟨g, 0, none⟩) c c) (some (.int k i)) (some (.int k' j)) none).run P w = .ok (.slice (some ⟨g, offAt 0 c m, none⟩) (h - m) (c - m)) w := by
  subst hi hj
  rw [sl_slice hu hs (by omega) (by omega) (by omega), Int.toNat_natCast, Int.toNat_natCast, cutAt_off]
/-- The pieces come round: some piece is above 0 within fewer reads than there are pieces. -/
def Near (zs : List Int) (ap d : Nat) : Prop := zs = [] ∨ (0 < zs.getD ((ap + d) % zs.length) 0 ∧ d < zs.length)
theorem near_ {zs : List Int} (h : zs = [] ∨ dc.pos zs zs.length = true) (ap : Nat) : ∃ d, Near zs ap d ∧ d ≤ zs.length := by
  rcases h with h | h
  · exact ⟨0, .inl h, Nat.zero_le _⟩
  · obtain ⟨i, hi, hp⟩ := dc.pos_ex h
    obtain ⟨d, h1, h2⟩ := dc.round_ (a := 0) (d := i) (by rw [Nat.zero_add, Nat.mod_eq_of_lt hi]; exact hp) hi ap
    exact ⟨d, .inr ⟨h2, h1⟩, by omega⟩
theorem near_step {zs : List Int} {ap d k r : Nat} (h : Near zs ap d) (hk : 0 < k) (hr : 0 < r) (h0 : dc.took zs ap k r = 0) : 0 < d ∧ Near zs (if zs = [] then ap else ap + 1) (d - 1) := by
  rcases h with rfl | ⟨h1, h2⟩
  · unfold dc.took at h0; simp at h0; omega
  · have hz : zs ≠ [] := fun e => by subst e; simp at h2
    rw [if_neg hz]
    have hd : d ≠ 0 := fun e => by
      subst e
      unfold dc.took at h0
      rw [if_neg hz] at h0
      rw [Nat.add_zero] at h1
      omega
    exact ⟨by omega, .inr ⟨by rw [show ap + 1 + (d - 1) = ap + d by omega]; exact h1, by omega⟩⟩
theorem pos_of {zs : List Int} {a k M : Nat} (h : dc.Prog zs a k M) : zs = [] ∨ dc.pos zs zs.length = true := by
  rcases h with ⟨h, _⟩ | ⟨d, h1, _, h3⟩
  · exact .inl h
  · right
    have hlt := Nat.mod_lt (a + d) (show 0 < zs.length by omega)
    unfold dc.pos
    rw [List.take_of_length_le (Nat.le_refl _)]
    refine List.any_eq_true.2 ⟨zs.getD ((a + d) % zs.length) 0, List.mem_of_getElem? (get_some 0 hlt), ?_⟩
    simpa using h1
theorem ext0 (s : ByteArray) : s.extract 0 s.size = s := by simp
end Go.Proofs.YtbahngfpadjbhaaDoor.bf
