-- PRINTED BY print.sh 35421559b90ae4d0a3588c463048766b98c2df88dd9212a6774a882060cdf62d: not written by this session
import Derived.Test.YtnajekpckbfcdaaGreatDoorProg
import Derived.Below
import Derived.Deep.Draws
import Derived.Deep.AppendLies
import Derived.Maps.AppendAt
import Derived.OwnWalk
import Derived.Laws.BytesArg
import Derived.Laws.MakeOwn
import Derived.Laws.OwnMore
import Derived.Deep.OwnRows
import Derived.Tactics
import Derived.Lib.ConvBytes
import Derived.Laws.Slices
import Derived.WalkKit
import Derived.KernelRfl
import Derived.RowKit3
import Derived.Deep.LoopGhost
import Derived.Deep.QuietTactic
import Derived.BigQuiet
import Derived.WideLaws
import Derived.Deep.DeepCutAuto
import Derived.Deep.CutBlock
import Derived.Deep.RegionHeld3
import Derived.Laws.Rows
import Derived.Lib.AppendStr
import Derived.ArgAppend
import Derived.Laws.IdiomCopy
import Derived.OrdersHeld
import Derived.Laws.BitsLemmas
import Derived.RowKit
import Derived.Test.YtnajekpckbfcdaaGreatDoorWWords
import Derived.Test.YtnajekpckbfcdaaGreatDoorWLast
import Derived.Test.YtnajekpckbfcdaaGreatDoorWTab
import Derived.Test.YtnajekpckbfcdaaGreatDoorWFour
import Derived.Test.YtnajekpckbfcdaaGreatDoorWQPut
import Derived.Test.YtnajekpckbfcdaaGreatDoorWApart
import Derived.Test.YtnajekpckbfcdaaGreatDoorWArr
import Derived.Test.YtnajekpckbfcdaaGreatDoorWZeros
import Derived.Test.YtnajekpckbfcdaaGreatDoorWFoot
import Derived.Test.YtnajekpckbfcdaaGreatDoorWKept
import Derived.Test.YtnajekpckbfcdaaGreatDoorWShare
import Derived.Test.YtnajekpckbfcdaaGreatDoorWN
import Derived.Test.YtnajekpckbfcdaaGreatDoorWFootNe
import Derived.Test.YtnajekpckbfcdaaGreatDoorWAt
import Derived.Test.YtnajekpckbfcdaaGreatDoorWEqStruct
import Derived.Test.YtnajekpckbfcdaaGreatDoorWRepsOne
import Derived.Test.YtnajekpckbfcdaaGreatDoorWInv
import Derived.Test.YtnajekpckbfcdaaGreatDoorWInvWords
import Derived.Test.YtnajekpckbfcdaaGreatDoorWGuard
import Derived.Test.YtnajekpckbfcdaaGreatDoorWNEv
import Derived.Test.YtnajekpckbfcdaaGreatDoorWMore
namespace Go.Proofs.YtnajekpckbfcdaaGreatDoor.PFnParseDecs
open Go.RowKit Go.Proofs.YtnajekpckbfcdaaGreatDoorW.PrintWords Go.Proofs.YtnajekpckbfcdaaGreatDoorW.PrintLast Go.Proofs.YtnajekpckbfcdaaGreatDoorW.PrintMore
attribute [local go_sem] max2_int min2_int max_two min_two max_three min_three max_four min_four   -- for this text's walks alone
set_option linter.unusedVariables false
set_option linter.unusedSimpArgs false

def errW : Option Int → Value
  | none => .nilIface
  | some c => .iface 0 (.int .i64 c)
theorem errW_none : errW none = .nilIface := rfl
theorem errW_some (c : Int) : errW (some c) = .iface 0 (.int .i64 c) := rfl

theorem info9 : (Tryz.prog.info? 9).map (fun i => (i.zero, i.size, i.bytes)) = some (some (.string ⟨#[]⟩), 1, 16) := by kernel_rfl
theorem info161 : (Tryz.prog.info? 161).map (fun i => (i.zero, i.size, i.bytes)) = some (some (.int .u64 0), 1, 8) := by kernel_rfl
-- the values' own types
/-! #### struct type 26 -/
structure S26 where
  f0 : ByteArray
  f1 : ByteArray
  f2 : Bool
  f3 : ByteArray
  f4 : ByteArray
  f5 : ByteArray
  f6 : ByteArray
def z26 : S26 := ⟨(⟨#[]⟩ : ByteArray), (⟨#[]⟩ : ByteArray), false, (⟨#[]⟩ : ByteArray), (⟨#[]⟩ : ByteArray), (⟨#[]⟩ : ByteArray), (⟨#[]⟩ : ByteArray)⟩
def k26 : Kd S26 := Kd.iso (Kd.pair Kd.string (Kd.pair Kd.string (Kd.pair Kd.bool (Kd.pair Kd.string (Kd.pair Kd.string (Kd.pair Kd.string Kd.string)))))) (fun x : S26 => (x.f0, x.f1, x.f2, x.f3, x.f4, x.f5, x.f6))
theorem k26_open {w : World} {x : S26} {cs : List Value} (h : k26.K w x cs) : cs = [.string x.f0, .string x.f1, .bool x.f2, .string x.f3, .string x.f4, .string x.f5, .string x.f6] := by
  obtain ⟨_, _, rfl, rfl, ⟨_, _, rfl, rfl, ⟨_, _, rfl, rfl, ⟨_, _, rfl, rfl, ⟨_, _, rfl, rfl, ⟨_, _, rfl, rfl, rfl⟩⟩⟩⟩⟩⟩ := h
  exact rfl
theorem k26_mk (w : World) (x : S26)  : k26.K w x [.string x.f0, .string x.f1, .bool x.f2, .string x.f3, .string x.f4, .string x.f5, .string x.f6] := ⟨[.string x.f0], [.string x.f1, .bool x.f2, .string x.f3, .string x.f4, .string x.f5, .string x.f6], rfl, rfl, ⟨[.string x.f1], [.bool x.f2, .string x.f3, .string x.f4, .string x.f5, .string x.f6], rfl, rfl, ⟨[.bool x.f2], [.string x.f3, .string x.f4, .string x.f5, .string x.f6], rfl, rfl, ⟨[.string x.f3], [.string x.f4, .string x.f5, .string x.f6], rfl, rfl, ⟨[.string x.f4], [.string x.f5, .string x.f6], rfl, rfl, ⟨[.string x.f5], [.string x.f6], rfl, rfl, rfl⟩⟩⟩⟩⟩⟩
def rd_T26 (xs : List S26) (i : Int) : S26 := xs.getD i.toNat z26
theorem at_T26 {w : World} {A : Option Addr} {n : Nat} {xs : List S26} (h : Kd.C k26 w A n xs) (i : Int) (h0 : 0 ≤ i) (h1 : i < n) : ∃ ad , A = some ad ∧ w.cell? (ad.add (i.toNat * 7)) = some (.string (rd_T26 xs i).f0) ∧ w.cell? ⟨(ad.add (i.toNat * 7)).block, (ad.add (i.toNat * 7)).off + 1, none⟩ = some (.string (rd_T26 xs i).f1) ∧ w.cell? ⟨(ad.add (i.toNat * 7)).block, (ad.add (i.toNat * 7)).off + 2, none⟩ = some (.bool (rd_T26 xs i).f2) ∧ w.cell? ⟨(ad.add (i.toNat * 7)).block, (ad.add (i.toNat * 7)).off + 3, none⟩ = some (.string (rd_T26 xs i).f3) ∧ w.cell? ⟨(ad.add (i.toNat * 7)).block, (ad.add (i.toNat * 7)).off + 4, none⟩ = some (.string (rd_T26 xs i).f4) ∧ w.cell? ⟨(ad.add (i.toNat * 7)).block, (ad.add (i.toNat * 7)).off + 5, none⟩ = some (.string (rd_T26 xs i).f5) ∧ w.cell? ⟨(ad.add (i.toNat * 7)).block, (ad.add (i.toNat * 7)).off + 6, none⟩ = some (.string (rd_T26 xs i).f6) := by
  obtain ⟨ad, c, e, _, hK, hc0⟩ := Kd.C_get h z26 i h0 h1
  have hc : ∀ j u, c[j]? = some u → w.cell? (ad.add (i.toNat * 7 + j)) = some u := hc0
  obtain rfl := k26_open hK
  exact ⟨ad, e, hc 0 _ rfl, by rw [← add_field _ _ 1 (by omega)]; exact hc 1 _ rfl, by rw [← add_field _ _ 2 (by omega)]; exact hc 2 _ rfl, by rw [← add_field _ _ 3 (by omega)]; exact hc 3 _ rfl, by rw [← add_field _ _ 4 (by omega)]; exact hc 4 _ rfl, by rw [← add_field _ _ 5 (by omega)]; exact hc 5 _ rfl, by rw [← add_field _ _ 6 (by omega)]; exact hc 6 _ rfl⟩

/-! #### struct type 46 -/
structure S46 where
  f0 : ByteArray
  f1 : Int
  f2 : Int
def z46 : S46 := ⟨(⟨#[]⟩ : ByteArray), (0 : Int), (0 : Int)⟩
/-! #### struct type 42 -/
structure S42 where
  f0 : Int
  f1 : Int
/-! #### struct type 44 -/
structure S44 where
  f0 : ByteArray
  f1 : S42
/-! #### struct type 52 -/
structure S52 where
  f0 : ByteArray
  f1 : Int
end Go.Proofs.YtnajekpckbfcdaaGreatDoor.PFnParseDecs
