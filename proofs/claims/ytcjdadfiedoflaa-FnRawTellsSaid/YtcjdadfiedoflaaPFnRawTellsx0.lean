-- PRINTED BY print.sh 35421559b90ae4d0a3588c463048766b98c2df88dd9212a6774a882060cdf62d: not written by this session
import Derived.Test.YtcjdadfiedoflaaProg
import Derived.Below
import Derived.Deep.Draws
import Derived.Deep.AppendLies
import Derived.Maps.AppendAt
import Derived.OwnWalk
import Derived.Laws.BytesArg
import Derived.Laws.MakeOwn
import Derived.Laws.OwnMore
import Derived.Deep.OwnRows
import Derived.Tactics
import Derived.Lib.ConvBytes
import Derived.Laws.Slices
import Derived.WalkKit
import Derived.KernelRfl
import Derived.RowKit3
import Derived.Deep.LoopGhost
import Derived.Deep.QuietTactic
import Derived.BigQuiet
import Derived.WideLaws
import Derived.Deep.DeepCutAuto
import Derived.Deep.CutBlock
import Derived.Deep.RegionHeld3
import Derived.Laws.Rows
import Derived.Lib.AppendStr
import Derived.ArgAppend
import Derived.Laws.IdiomCopy
import Derived.OrdersHeld
import Derived.Laws.BitsLemmas
import Derived.RowKit
import Derived.Test.YtcjdadfiedoflaaWWords
import Derived.Test.YtcjdadfiedoflaaWLast
import Derived.Test.YtcjdadfiedoflaaWTab
import Derived.Test.YtcjdadfiedoflaaWFour
import Derived.Test.YtcjdadfiedoflaaWQPut
import Derived.Test.YtcjdadfiedoflaaWApart
import Derived.Test.YtcjdadfiedoflaaWArr
import Derived.Test.YtcjdadfiedoflaaWZeros
import Derived.Test.YtcjdadfiedoflaaWFoot
import Derived.Test.YtcjdadfiedoflaaWKept
import Derived.Test.YtcjdadfiedoflaaWShare
import Derived.Test.YtcjdadfiedoflaaWN
import Derived.Test.YtcjdadfiedoflaaWFootNe
import Derived.Test.YtcjdadfiedoflaaWAt
import Derived.Test.YtcjdadfiedoflaaWEqStruct
import Derived.Test.YtcjdadfiedoflaaWRepsOne
import Derived.Test.YtcjdadfiedoflaaWInv
import Derived.Test.YtcjdadfiedoflaaWInvWords
import Derived.Test.YtcjdadfiedoflaaWGuard
import Derived.Test.YtcjdadfiedoflaaWNEv
import Derived.Test.YtcjdadfiedoflaaWMore
namespace Go.Proofs.Ytcjdadfiedoflaa.PFnRawTells
open Go.RowKit Go.Proofs.YtcjdadfiedoflaaW.PrintWords Go.Proofs.YtcjdadfiedoflaaW.PrintLast Go.Proofs.YtcjdadfiedoflaaW.PrintMore
attribute [local go_sem] max2_int min2_int max_two min_two max_three min_three max_four min_four   -- for this text's walks alone
set_option linter.unusedVariables false
set_option linter.unusedSimpArgs false



def errW : Option Int → Value
  | none => .nilIface
  | some c => .iface 0 (.int .i64 c)
theorem errW_none : errW none = .nilIface := rfl
theorem errW_some (c : Int) : errW (some c) = .iface 0 (.int .i64 c) := rfl

theorem info5 : (Try.prog.info? 5).map (fun i => (i.zero, i.size, i.bytes)) = some (some (.int .u8 0), 1, 1) := by kernel_rfl
-- the values' own types
def rd_L3 (xs : List (List ByteArray)) (i : Int) : (List ByteArray) := xs.getD i.toNat ([] : List ByteArray)
theorem at_L3 {w : World} {A : Option Addr} {n : Nat} {xs : List (List ByteArray)} (h : Kd.C (Kd.slice 9 Kd.string) w A n xs) (i : Int) (h0 : 0 ≤ i) (h1 : i < n) : ∃ ad A0 c0, A = some ad ∧ w.cell? (ad.add i.toNat) = some (.slice A0 (rd_L3 xs i).length c0) ∧ (rd_L3 xs i).length ≤ c0 ∧ Kd.string.C w A0 (rd_L3 xs i).length (rd_L3 xs i) := by
  obtain ⟨ad, c, e, _, hK, hc0⟩ := Kd.C_get h ([] : List ByteArray) i h0 h1
  have hc : ∀ j u, c[j]? = some u → w.cell? (ad.add (i.toNat * 1 + j)) = some u := hc0
  obtain ⟨A0, c0, rfl, l0, g0⟩ := hK
  exact ⟨ad, A0, c0, e, by have hq := hc 0 _ rfl; rwa [Nat.mul_one, Nat.add_zero] at hq, l0, g0⟩

/-! #### struct type 43, nested in itself -/
structure S43 where
  f0 : Int
  f1 : ByteArray
  f2 : ByteArray
  f3 : (List S43)
  f4 : Bool
  f5 : Bool
  f6 : (List ByteArray)
def z43 : S43 := ⟨(0 : Int), (⟨#[]⟩ : ByteArray), (⟨#[]⟩ : ByteArray), ([] : List S43), false, false, ([] : List ByteArray)⟩
def F43 (d : Kd S43) : Kd S43 := Kd.iso (Kd.pair (Kd.int .u8) (Kd.pair Kd.string (Kd.pair Kd.string (Kd.pair (Kd.slice 43 d) (Kd.pair Kd.bool (Kd.pair Kd.bool (Kd.slice 9 Kd.string))))))) (fun x : S43 => (x.f0, x.f1, x.f2, x.f3, x.f4, x.f5, x.f6))
theorem mono43 : Kd.Mono F43 := Kd.mono_iso _ (Kd.mono_pair (Kd.mono_const _) (Kd.mono_pair (Kd.mono_const _) (Kd.mono_pair (Kd.mono_const _) (Kd.mono_pair (Kd.mono_slice 43 Kd.mono_id) (Kd.mono_pair (Kd.mono_const _) (Kd.mono_pair (Kd.mono_const _) (Kd.mono_const _)))))))
theorem sub43 : Kd.Sub F43 [9, 43] := Kd.sub_iso _ (Kd.sub_pair (Kd.sub_const _ (by decide)) (Kd.sub_pair (Kd.sub_const _ (by decide)) (Kd.sub_pair (Kd.sub_const _ (by decide)) (Kd.sub_pair (Kd.sub_slice 43 (by decide) Kd.sub_id) (Kd.sub_pair (Kd.sub_const _ (by decide)) (Kd.sub_pair (Kd.sub_const _ (by decide)) (Kd.sub_const _ (by decide))))))))
theorem sz43 : ∀ n, (Kd.upto F43 7 [9, 43] n).sz = 7 := Kd.upto_sz (fun _ => rfl)
def k43 : Kd S43 := Kd.fix F43 7 [9, 43] sz43 (Kd.upto_E sub43)
theorem k43_open {w : World} {x : S43} {cs : List Value} (h : k43.K w x cs) : ∃ A3 c3 A6 c6, cs = [.int .u8 x.f0, .string x.f1, .string x.f2, .slice A3 x.f3.length c3, .bool x.f4, .bool x.f5, .slice A6 x.f6.length c6] ∧ x.f3.length ≤ c3 ∧ k43.C w A3 x.f3.length x.f3 ∧ x.f6.length ≤ c6 ∧ Kd.string.C w A6 x.f6.length x.f6 := by
  obtain ⟨n, h⟩ := h
  cases n with
  | zero => exact h.elim
  | succ n =>
    obtain ⟨_, _, rfl, rfl, ⟨_, _, rfl, rfl, ⟨_, _, rfl, rfl, ⟨_, _, rfl, ⟨A3, c3, rfl, l3, g3⟩, ⟨_, _, rfl, rfl, ⟨_, _, rfl, rfl, ⟨A6, c6, rfl, l6, g6⟩⟩⟩⟩⟩⟩⟩ := h
    exact ⟨A3, c3, A6, c6, rfl, l3, Kd.fix_C g3, l6, g6⟩
theorem k43_openM {w : World} {base : Nat} {ok : Nat → Prop} {x : S43} {cs : List Value} (h : k43.M w base ok x cs) : ∃ v3 v6, cs = [.int .u8 x.f0, .string x.f1, .string x.f2, v3, .bool x.f4, .bool x.f5, v6] ∧ k43.R 43 w base ok v3 x.f3 ∧ Kd.string.R 9 w base ok v6 x.f6 := by
  obtain ⟨n, h⟩ := h
  cases n with
  | zero => exact h.elim
  | succ n =>
    obtain ⟨_, _, rfl, rfl, ⟨_, _, rfl, rfl, ⟨_, _, rfl, rfl, ⟨_, _, rfl, ⟨v3, rfl, g3⟩, ⟨_, _, rfl, rfl, ⟨_, _, rfl, rfl, ⟨v6, rfl, g6⟩⟩⟩⟩⟩⟩⟩ := h
    exact ⟨v3, v6, rfl, Kd.fix_R g3, g6⟩
theorem k43_mk (w : World) (x : S43) {A3 : Option Addr} {c3 : Nat} (l3 : x.f3.length ≤ c3) (g3 : k43.C w A3 x.f3.length x.f3) {A6 : Option Addr} {c6 : Nat} (l6 : x.f6.length ≤ c6) (g6 : Kd.string.C w A6 x.f6.length x.f6) : k43.K w x [.int .u8 x.f0, .string x.f1, .string x.f2, .slice A3 x.f3.length c3, .bool x.f4, .bool x.f5, .slice A6 x.f6.length c6] := by
  obtain ⟨n3, q3⟩ := Kd.fix_C_back mono43 g3
  have r3 := Kd.upto_C_le mono43 sz43 (show n3 ≤ n3 by omega) q3
  exact ⟨n3 + 1, ⟨[.int .u8 x.f0], [.string x.f1, .string x.f2, .slice A3 x.f3.length c3, .bool x.f4, .bool x.f5, .slice A6 x.f6.length c6], rfl, rfl, ⟨[.string x.f1], [.string x.f2, .slice A3 x.f3.length c3, .bool x.f4, .bool x.f5, .slice A6 x.f6.length c6], rfl, rfl, ⟨[.string x.f2], [.slice A3 x.f3.length c3, .bool x.f4, .bool x.f5, .slice A6 x.f6.length c6], rfl, rfl, ⟨[.slice A3 x.f3.length c3], [.bool x.f4, .bool x.f5, .slice A6 x.f6.length c6], rfl, ⟨A3, c3, rfl, l3, r3⟩, ⟨[.bool x.f4], [.bool x.f5, .slice A6 x.f6.length c6], rfl, rfl, ⟨[.bool x.f5], [.slice A6 x.f6.length c6], rfl, rfl, ⟨A6, c6, rfl, l6, g6⟩⟩⟩⟩⟩⟩⟩⟩
theorem k43_mkM (w : World) (base : Nat) (ok : Nat → Prop) (x : S43) {v3 : Value} (g3 : k43.R 43 w base ok v3 x.f3) {v6 : Value} (g6 : Kd.string.R 9 w base ok v6 x.f6) : k43.M w base ok x [.int .u8 x.f0, .string x.f1, .string x.f2, v3, .bool x.f4, .bool x.f5, v6] := by
  obtain ⟨n3, q3⟩ := Kd.fix_R_back mono43 g3
  have r3 := Kd.upto_R_le mono43 sz43 (show n3 ≤ n3 by omega) q3
  exact ⟨n3 + 1, ⟨[.int .u8 x.f0], [.string x.f1, .string x.f2, v3, .bool x.f4, .bool x.f5, v6], rfl, rfl, ⟨[.string x.f1], [.string x.f2, v3, .bool x.f4, .bool x.f5, v6], rfl, rfl, ⟨[.string x.f2], [v3, .bool x.f4, .bool x.f5, v6], rfl, rfl, ⟨[v3], [.bool x.f4, .bool x.f5, v6], rfl, ⟨v3, rfl, r3⟩, ⟨[.bool x.f4], [.bool x.f5, v6], rfl, rfl, ⟨[.bool x.f5], [v6], rfl, rfl, ⟨v6, rfl, g6⟩⟩⟩⟩⟩⟩⟩⟩
def rd_T43 (xs : List S43) (i : Int) : S43 := xs.getD i.toNat z43
theorem at_T43 {w : World} {A : Option Addr} {n : Nat} {xs : List S43} (h : Kd.C k43 w A n xs) (i : Int) (h0 : 0 ≤ i) (h1 : i < n) : ∃ ad A3 c3 A6 c6, A = some ad ∧ w.cell? (ad.add (i.toNat * 7)) = some (.int .u8 (rd_T43 xs i).f0) ∧ w.cell? ⟨(ad.add (i.toNat * 7)).block, (ad.add (i.toNat * 7)).off + 1, none⟩ = some (.string (rd_T43 xs i).f1) ∧ w.cell? ⟨(ad.add (i.toNat * 7)).block, (ad.add (i.toNat * 7)).off + 2, none⟩ = some (.string (rd_T43 xs i).f2) ∧ w.cell? ⟨(ad.add (i.toNat * 7)).block, (ad.add (i.toNat * 7)).off + 3, none⟩ = some (.slice A3 (rd_T43 xs i).f3.length c3) ∧ w.cell? ⟨(ad.add (i.toNat * 7)).block, (ad.add (i.toNat * 7)).off + 4, none⟩ = some (.bool (rd_T43 xs i).f4) ∧ w.cell? ⟨(ad.add (i.toNat * 7)).block, (ad.add (i.toNat * 7)).off + 5, none⟩ = some (.bool (rd_T43 xs i).f5) ∧ w.cell? ⟨(ad.add (i.toNat * 7)).block, (ad.add (i.toNat * 7)).off + 6, none⟩ = some (.slice A6 (rd_T43 xs i).f6.length c6) ∧ (rd_T43 xs i).f3.length ≤ c3 ∧ k43.C w A3 (rd_T43 xs i).f3.length (rd_T43 xs i).f3 ∧ (rd_T43 xs i).f6.length ≤ c6 ∧ Kd.string.C w A6 (rd_T43 xs i).f6.length (rd_T43 xs i).f6 := by
  obtain ⟨ad, c, e, _, hK, hc0⟩ := Kd.C_get h z43 i h0 h1
  have hc : ∀ j u, c[j]? = some u → w.cell? (ad.add (i.toNat * 7 + j)) = some u := hc0
  obtain ⟨A3, c3, A6, c6, rfl, l3, g3, l6, g6⟩ := k43_open hK
  exact ⟨ad, A3, c3, A6, c6, e, hc 0 _ rfl, by rw [← add_field _ _ 1 (by omega)]; exact hc 1 _ rfl, by rw [← add_field _ _ 2 (by omega)]; exact hc 2 _ rfl, by rw [← add_field _ _ 3 (by omega)]; exact hc 3 _ rfl, by rw [← add_field _ _ 4 (by omega)]; exact hc 4 _ rfl, by rw [← add_field _ _ 5 (by omega)]; exact hc 5 _ rfl, by rw [← add_field _ _ 6 (by omega)]; exact hc 6 _ rfl, l3, g3, l6, g6⟩

end Go.Proofs.Ytcjdadfiedoflaa.PFnRawTells
