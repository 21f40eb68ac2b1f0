-- PRINTED by print.py (a twelfth state) out of the translation. Not trusted: Lean checks it.
import Derived.Test.YtnchgmjeoajmiaaGreatDoorProg
import Derived.Below
import Derived.Deep.Draws
import Derived.Deep.AppendLies
import Derived.Maps.AppendAt
import Derived.OwnWalk
import Derived.Laws.BytesArg
import Derived.Laws.MakeOwn
import Derived.Laws.OwnMore
import Derived.Deep.OwnRows
import Derived.Tactics
import Derived.Lib.ConvBytes
import Derived.Laws.Slices
import Derived.WalkKit
import Derived.KernelRfl
import Derived.RowKit3
import Derived.Deep.LoopGhost
import Derived.Deep.QuietTactic
import Derived.BigQuiet
import Derived.WideLaws
import Derived.Deep.DeepCutAuto
import Derived.Deep.CutBlock
import Derived.Deep.RegionHeld3
import Derived.Laws.Rows
import Derived.Lib.AppendStr
import Derived.ArgAppend
import Derived.Laws.IdiomCopy
import Derived.OrdersHeld
import Derived.Laws.BitsLemmas
import Derived.RowKit
import Derived.Test.YtnchgmjeoajmiaaGreatDoorWWords
import Derived.Test.YtnchgmjeoajmiaaGreatDoorWLast
import Derived.Test.YtnchgmjeoajmiaaGreatDoorWTab
import Derived.Test.YtnchgmjeoajmiaaGreatDoorWFour
import Derived.Test.YtnchgmjeoajmiaaGreatDoorWQPut
import Derived.Test.YtnchgmjeoajmiaaGreatDoorWApart
import Derived.Test.YtnchgmjeoajmiaaGreatDoorWArr
import Derived.Test.YtnchgmjeoajmiaaGreatDoorWZeros
import Derived.Test.YtnchgmjeoajmiaaGreatDoorWFoot
import Derived.Test.YtnchgmjeoajmiaaGreatDoorWKept
import Derived.Test.YtnchgmjeoajmiaaGreatDoorWShare
import Derived.Test.YtnchgmjeoajmiaaGreatDoorWN
import Derived.Test.YtnchgmjeoajmiaaGreatDoorWFootNe
import Derived.Test.YtnchgmjeoajmiaaGreatDoorWAt
import Derived.Test.YtnchgmjeoajmiaaGreatDoorWEqStruct
import Derived.Test.YtnchgmjeoajmiaaGreatDoorWRepsOne
import Derived.Test.YtnchgmjeoajmiaaGreatDoorWInv
import Derived.Test.YtnchgmjeoajmiaaGreatDoorWInvWords
import Derived.Test.YtnchgmjeoajmiaaGreatDoorWGuard
import Derived.Test.YtnchgmjeoajmiaaGreatDoorWNEv
import Derived.Test.YtnchgmjeoajmiaaGreatDoorWMore
namespace Go.Proofs.YtnchgmjeoajmiaaGreatDoor.P
open Go.RowKit Go.Proofs.YtnchgmjeoajmiaaGreatDoorW.PrintWords Go.Proofs.YtnchgmjeoajmiaaGreatDoorW.PrintLast Go.Proofs.YtnchgmjeoajmiaaGreatDoorW.PrintMore
attribute [local go_sem] max2_int min2_int max_two min_two max_three min_three max_four min_four   -- for this text's walks alone
set_option linter.unusedVariables false
set_option linter.unusedSimpArgs false



def errW : Option Int → Value
  | none => .nilIface
  | some c => .iface 0 (.int .i64 c)
theorem errW_none : errW none = .nilIface := rfl
theorem errW_some (c : Int) : errW (some c) = .iface 0 (.int .i64 c) := rfl

theorem info5 : (Tryz.prog.info? 5).map (fun i => (i.zero, i.size, i.bytes)) = some (some (.int .u8 0), 1, 1) := by kernel_rfl
theorem info9 : (Tryz.prog.info? 9).map (fun i => (i.zero, i.size, i.bytes)) = some (some (.string ⟨#[]⟩), 1, 16) := by kernel_rfl
-- the values' own types
def rd_L2 (xs : List (List Int)) (i : Int) : (List Int) := xs.getD i.toNat ([] : List Int)
theorem at_L2 {w : World} {A : Option Addr} {n : Nat} {xs : List (List Int)} (h : Kd.C (Kd.slice 3 (Kd.int .i64)) w A n xs) (i : Int) (h0 : 0 ≤ i) (h1 : i < n) : ∃ ad A0 c0, A = some ad ∧ w.cell? (ad.add i.toNat) = some (.slice A0 (rd_L2 xs i).length c0) ∧ (rd_L2 xs i).length ≤ c0 ∧ (Kd.int .i64).C w A0 (rd_L2 xs i).length (rd_L2 xs i) := by
  obtain ⟨ad, c, e, _, hK, hc0⟩ := Kd.C_get h ([] : List Int) i h0 h1
  have hc : ∀ j u, c[j]? = some u → w.cell? (ad.add (i.toNat * 1 + j)) = some u := hc0
  obtain ⟨A0, c0, rfl, l0, g0⟩ := hK
  exact ⟨ad, A0, c0, e, by have hq := hc 0 _ rfl; rwa [Nat.mul_one, Nat.add_zero] at hq, l0, g0⟩

/-! #### struct type 42 -/
structure S42 where
  f0 : Int
  f1 : ByteArray
  f2 : (List Int)
  f3 : Int
  f4 : ByteArray
def z42 : S42 := ⟨(0 : Int), (⟨#[]⟩ : ByteArray), ([] : List Int), (0 : Int), (⟨#[]⟩ : ByteArray)⟩
def k42 : Kd S42 := Kd.iso (Kd.pair (Kd.int .i64) (Kd.pair Kd.string (Kd.pair (Kd.slice 3 (Kd.int .i64)) (Kd.pair (Kd.int .i64) Kd.string)))) (fun x : S42 => (x.f0, x.f1, x.f2, x.f3, x.f4))
theorem k42_open {w : World} {x : S42} {cs : List Value} (h : k42.K w x cs) : ∃ A2 c2, cs = [.int .i64 x.f0, .string x.f1, .slice A2 x.f2.length c2, .int .i64 x.f3, .string x.f4] ∧ x.f2.length ≤ c2 ∧ (Kd.int .i64).C w A2 x.f2.length x.f2 := by
  obtain ⟨_, _, rfl, rfl, ⟨_, _, rfl, rfl, ⟨_, _, rfl, ⟨A2, c2, rfl, l2, g2⟩, ⟨_, _, rfl, rfl, rfl⟩⟩⟩⟩ := h
  exact ⟨A2, c2, rfl, l2, g2⟩
theorem k42_openM {w : World} {base : Nat} {ok : Nat → Prop} {x : S42} {cs : List Value} (h : k42.M w base ok x cs) : ∃ v2, cs = [.int .i64 x.f0, .string x.f1, v2, .int .i64 x.f3, .string x.f4] ∧ (Kd.int .i64).R 3 w base ok v2 x.f2 := by
  obtain ⟨_, _, rfl, rfl, ⟨_, _, rfl, rfl, ⟨_, _, rfl, ⟨v2, rfl, g2⟩, ⟨_, _, rfl, rfl, rfl⟩⟩⟩⟩ := h
  exact ⟨v2, rfl, g2⟩
theorem k42_mk (w : World) (x : S42) {A2 : Option Addr} {c2 : Nat} (l2 : x.f2.length ≤ c2) (g2 : (Kd.int .i64).C w A2 x.f2.length x.f2) : k42.K w x [.int .i64 x.f0, .string x.f1, .slice A2 x.f2.length c2, .int .i64 x.f3, .string x.f4] := ⟨[.int .i64 x.f0], [.string x.f1, .slice A2 x.f2.length c2, .int .i64 x.f3, .string x.f4], rfl, rfl, ⟨[.string x.f1], [.slice A2 x.f2.length c2, .int .i64 x.f3, .string x.f4], rfl, rfl, ⟨[.slice A2 x.f2.length c2], [.int .i64 x.f3, .string x.f4], rfl, ⟨A2, c2, rfl, l2, g2⟩, ⟨[.int .i64 x.f3], [.string x.f4], rfl, rfl, rfl⟩⟩⟩⟩
theorem k42_mkM (w : World) (base : Nat) (ok : Nat → Prop) (x : S42) {v2 : Value} (g2 : (Kd.int .i64).R 3 w base ok v2 x.f2) : k42.M w base ok x [.int .i64 x.f0, .string x.f1, v2, .int .i64 x.f3, .string x.f4] := ⟨[.int .i64 x.f0], [.string x.f1, v2, .int .i64 x.f3, .string x.f4], rfl, rfl, ⟨[.string x.f1], [v2, .int .i64 x.f3, .string x.f4], rfl, rfl, ⟨[v2], [.int .i64 x.f3, .string x.f4], rfl, ⟨v2, rfl, g2⟩, ⟨[.int .i64 x.f3], [.string x.f4], rfl, rfl, rfl⟩⟩⟩⟩
def rd_T42 (xs : List S42) (i : Int) : S42 := xs.getD i.toNat z42
theorem at_T42 {w : World} {A : Option Addr} {n : Nat} {xs : List S42} (h : Kd.C k42 w A n xs) (i : Int) (h0 : 0 ≤ i) (h1 : i < n) : ∃ ad A2 c2, A = some ad ∧ w.cell? (ad.add (i.toNat * 5)) = some (.int .i64 (rd_T42 xs i).f0) ∧ w.cell? ⟨(ad.add (i.toNat * 5)).block, (ad.add (i.toNat * 5)).off + 1, none⟩ = some (.string (rd_T42 xs i).f1) ∧ w.cell? ⟨(ad.add (i.toNat * 5)).block, (ad.add (i.toNat * 5)).off + 2, none⟩ = some (.slice A2 (rd_T42 xs i).f2.length c2) ∧ w.cell? ⟨(ad.add (i.toNat * 5)).block, (ad.add (i.toNat * 5)).off + 3, none⟩ = some (.int .i64 (rd_T42 xs i).f3) ∧ w.cell? ⟨(ad.add (i.toNat * 5)).block, (ad.add (i.toNat * 5)).off + 4, none⟩ = some (.string (rd_T42 xs i).f4) ∧ (rd_T42 xs i).f2.length ≤ c2 ∧ (Kd.int .i64).C w A2 (rd_T42 xs i).f2.length (rd_T42 xs i).f2 := by
  obtain ⟨ad, c, e, _, hK, hc0⟩ := Kd.C_get h z42 i h0 h1
  have hc : ∀ j u, c[j]? = some u → w.cell? (ad.add (i.toNat * 5 + j)) = some u := hc0
  obtain ⟨A2, c2, rfl, l2, g2⟩ := k42_open hK
  exact ⟨ad, A2, c2, e, hc 0 _ rfl, by rw [← add_field _ _ 1 (by omega)]; exact hc 1 _ rfl, by rw [← add_field _ _ 2 (by omega)]; exact hc 2 _ rfl, by rw [← add_field _ _ 3 (by omega)]; exact hc 3 _ rfl, by rw [← add_field _ _ 4 (by omega)]; exact hc 4 _ rfl, l2, g2⟩

end Go.Proofs.YtnchgmjeoajmiaaGreatDoor.P
