/- Words of this seat's own: five results that lie in memory; a token's set; what is held, as a row. -/
import Derived.Test.YtbahngfpadjbhaaDoorTe
namespace Go.Proofs.HHW
open Go.RowKit Go.Proofs.YtbahngfpadjbhaaDoorW.PrintWords
set_option linter.unusedVariables false
set_option linter.unusedSimpArgs false
section
variable {P : Program} {w : World}
theorem res_c5 {F : List (Nat × Value)} {fn : Func} {a b c d e : Tmp} {t u s r q : TypeId} {ad bd cd dd ed : Addr} {v v' v'' v3 v4 : Value} (hr : fn.results = #[.cell a t, .cell b u, .cell c s, .cell d r, .cell e q]) (ha : slot F a = some (.pointer (some ad))) (hb : slot F b = some (.pointer (some bd))) (hc : slot F c = some (.pointer (some cd))) (hd : slot F d = some (.pointer (some dd))) (he : slot F e = some (.pointer (some ed)))
    (h1 : (loadVar t ad).run P w = .ok v w) (h2 : (loadVar u bd).run P w = .ok v' w) (h3 : (loadVar s cd).run P w = .ok v'' w) (h4 : (loadVar r dd).run P w = .ok v3 w) (h5 : (loadVar q ed).run P w = .ok v4 w) :
    ∀ tmps : Array Value, (∀ i v, slot F i = some v → tmps[i]? = some v) → (results fn tmps).run P w = .ok (.tuple #[v, v', v'', v3, v4]) w := by
  intro tmps ht
  simp [results, hr, ht a _ ha, ht b _ hb, ht c _ hc, ht d _ hd, ht e _ he, asAddr, Sem.run_bind, Result.andThen, h1, h2, h3, h4, h5]
end
/-- Which set a kind of token has. -/
def sK (k : Nat) : Nat := if k = 0 then 5 else if k = 1 then 2 else if k = 2 then 6 else if k = 3 then 7 else 8
theorem sK_lt (k : Nat) : sK k < 14 := by unfold sK; (repeat' split) <;> omega
theorem sK_at {k : Nat} (h : k < 5) : (#[Value.int .i64 5, .int .i64 2, .int .i64 6, .int .i64 7, .int .i64 8] : Array Value)[k]? = some (.int .i64 (sK k : Int)) := by
  rcases (show k = 0 ∨ k = 1 ∨ k = 2 ∨ k = 3 ∨ k = 4 by omega) with rfl | rfl | rfl | rfl | rfl <;> rfl
theorem HH.back3 {B : Nat} {wb w : World} {x y z : Nat × Obj} {D E L : List (Nat × Obj)} (H : HH B wb w (x :: y :: z :: (D ++ (E ++ L)))) : HH B wb w (D ++ (E ++ (x :: y :: z :: L))) :=
  (H.cast (show x :: y :: z :: (D ++ (E ++ L)) = [x, y, z] ++ (D ++ (E ++ L)) from rfl)).perm (((List.perm_append_comm_assoc [x, y, z] D (E ++ L)).trans (List.Perm.append_left D (List.perm_append_comm_assoc [x, y, z] E L))))
theorem HeldT.C {B : Nat} {wb w : World} {D G E L : YtbahngfpadjbhaaDoor.dc.Bk} {eb : Value} {A : Option Addr} {t : List Int} (h : HeldT D E eb A t) (H : HH B wb w (D ++ (G ++ (E ++ L)))) (hl : t.length ≤ 9223372036854775807) : (Kd.int .u8).C w A t.length t := by
  rcases h with rfl | ⟨gt, ot, rfl, h⟩
  · exact ⟨rfl, by simp, fun h => absurd h (by simp)⟩
  · have H2 : HH B wb w (D ++ (E ++ (G ++ L))) := H.perm (List.Perm.append_left D (List.perm_append_comm_assoc G E L))
    exact RB.C (YtbahngfpadjbhaaDoor.dc.held_rb H2 (h.elim .inl fun h => .inr (.inl h))) hl
end Go.Proofs.HHW
