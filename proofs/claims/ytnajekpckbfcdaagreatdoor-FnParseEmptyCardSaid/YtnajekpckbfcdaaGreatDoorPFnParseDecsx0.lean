-- PRINTED BY print.sh 35421559b90ae4d0a3588c463048766b98c2df88dd9212a6774a882060cdf62d: not written by this session
import Derived.Test.YtnajekpckbfcdaaGreatDoorProg
import Derived.Below
import Derived.Deep.Draws
import Derived.Deep.AppendLies
import Derived.Maps.AppendAt
import Derived.OwnWalk
import Derived.Laws.BytesArg
import Derived.Laws.MakeOwn
import Derived.Laws.OwnMore
import Derived.Deep.OwnRows
import Derived.Tactics
import Derived.Lib.ConvBytes
import Derived.Laws.Slices
import Derived.WalkKit
import Derived.KernelRfl
import Derived.RowKit3
import Derived.Deep.LoopGhost
import Derived.Deep.QuietTactic
import Derived.BigQuiet
import Derived.WideLaws
import Derived.Deep.DeepCutAuto
import Derived.Deep.CutBlock
import Derived.Deep.RegionHeld3
import Derived.Laws.Rows
import Derived.Lib.AppendStr
import Derived.ArgAppend
import Derived.Laws.IdiomCopy
import Derived.OrdersHeld
import Derived.Laws.BitsLemmas
import Derived.RowKit
import Derived.Test.YtnajekpckbfcdaaGreatDoorWWords
import Derived.Test.YtnajekpckbfcdaaGreatDoorWLast
import Derived.Test.YtnajekpckbfcdaaGreatDoorWTab
import Derived.Test.YtnajekpckbfcdaaGreatDoorWFour
import Derived.Test.YtnajekpckbfcdaaGreatDoorWQPut
import Derived.Test.YtnajekpckbfcdaaGreatDoorWApart
import Derived.Test.YtnajekpckbfcdaaGreatDoorWArr
import Derived.Test.YtnajekpckbfcdaaGreatDoorWZeros
import Derived.Test.YtnajekpckbfcdaaGreatDoorWFoot
import Derived.Test.YtnajekpckbfcdaaGreatDoorWKept
import Derived.Test.YtnajekpckbfcdaaGreatDoorWShare
import Derived.Test.YtnajekpckbfcdaaGreatDoorWN
import Derived.Test.YtnajekpckbfcdaaGreatDoorWFootNe
import Derived.Test.YtnajekpckbfcdaaGreatDoorWAt
import Derived.Test.YtnajekpckbfcdaaGreatDoorWEqStruct
import Derived.Test.YtnajekpckbfcdaaGreatDoorWRepsOne
import Derived.Test.YtnajekpckbfcdaaGreatDoorWInv
import Derived.Test.YtnajekpckbfcdaaGreatDoorWInvWords
import Derived.Test.YtnajekpckbfcdaaGreatDoorWGuard
import Derived.Test.YtnajekpckbfcdaaGreatDoorWNEv
import Derived.Test.YtnajekpckbfcdaaGreatDoorWMore
namespace Go.Proofs.YtnajekpckbfcdaaGreatDoor.PFnParseDecs
open Go.RowKit Go.Proofs.YtnajekpckbfcdaaGreatDoorW.PrintWords Go.Proofs.YtnajekpckbfcdaaGreatDoorW.PrintLast Go.Proofs.YtnajekpckbfcdaaGreatDoorW.PrintMore
attribute [local go_sem] max2_int min2_int max_two min_two max_three min_three max_four min_four   -- for this text's walks alone
set_option linter.unusedVariables false
set_option linter.unusedSimpArgs false



def errW : Option Int → Value
  | none => .nilIface
  | some c => .iface 0 (.int .i64 c)
theorem errW_none : errW none = .nilIface := rfl
theorem errW_some (c : Int) : errW (some c) = .iface 0 (.int .i64 c) := rfl

theorem info9 : (Tryz.prog.info? 9).map (fun i => (i.zero, i.size, i.bytes)) = some (some (.string ⟨#[]⟩), 1, 16) := by kernel_rfl
theorem info161 : (Tryz.prog.info? 161).map (fun i => (i.zero, i.size, i.bytes)) = some (some (.int .u64 0), 1, 8) := by kernel_rfl
-- the values' own types
/-! #### struct type 26 -/
structure S26 where
  f0 : ByteArray
  f1 : ByteArray
  f2 : Bool
  f3 : ByteArray
  f4 : ByteArray
  f5 : ByteArray
  f6 : ByteArray
def z26 : S26 := ⟨(⟨#[]⟩ : ByteArray), (⟨#[]⟩ : ByteArray), false, (⟨#[]⟩ : ByteArray), (⟨#[]⟩ : ByteArray), (⟨#[]⟩ : ByteArray), (⟨#[]⟩ : ByteArray)⟩
def k26 : Kd S26 := Kd.iso (Kd.pair Kd.string (Kd.pair Kd.string (Kd.pair Kd.bool (Kd.pair Kd.string (Kd.pair Kd.string (Kd.pair Kd.string Kd.string)))))) (fun x : S26 => (x.f0, x.f1, x.f2, x.f3, x.f4, x.f5, x.f6))
theorem k26_open {w : World} {x : S26} {cs : List Value} (h : k26.K w x cs) : cs = [.string x.f0, .string x.f1, .bool x.f2, .string x.f3, .string x.f4, .string x.f5, .string x.f6] := by
  obtain ⟨_, _, rfl, rfl, ⟨_, _, rfl, rfl, ⟨_, _, rfl, rfl, ⟨_, _, rfl, rfl, ⟨_, _, rfl, rfl, ⟨_, _, rfl, rfl, rfl⟩⟩⟩⟩⟩⟩ := h
  exact rfl
theorem k26_openM {w : World} {base : Nat} {ok : Nat → Prop} {x : S26} {cs : List Value} (h : k26.M w base ok x cs) : cs = [.string x.f0, .string x.f1, .bool x.f2, .string x.f3, .string x.f4, .string x.f5, .string x.f6] := by
  obtain ⟨_, _, rfl, rfl, ⟨_, _, rfl, rfl, ⟨_, _, rfl, rfl, ⟨_, _, rfl, rfl, ⟨_, _, rfl, rfl, ⟨_, _, rfl, rfl, rfl⟩⟩⟩⟩⟩⟩ := h
  exact rfl
theorem k26_mk (w : World) (x : S26)  : k26.K w x [.string x.f0, .string x.f1, .bool x.f2, .string x.f3, .string x.f4, .string x.f5, .string x.f6] := ⟨[.string x.f0], [.string x.f1, .bool x.f2, .string x.f3, .string x.f4, .string x.f5, .string x.f6], rfl, rfl, ⟨[.string x.f1], [.bool x.f2, .string x.f3, .string x.f4, .string x.f5, .string x.f6], rfl, rfl, ⟨[.bool x.f2], [.string x.f3, .string x.f4, .string x.f5, .string x.f6], rfl, rfl, ⟨[.string x.f3], [.string x.f4, .string x.f5, .string x.f6], rfl, rfl, ⟨[.string x.f4], [.string x.f5, .string x.f6], rfl, rfl, ⟨[.string x.f5], [.string x.f6], rfl, rfl, rfl⟩⟩⟩⟩⟩⟩
theorem k26_mkM (w : World) (base : Nat) (ok : Nat → Prop) (x : S26)  : k26.M w base ok x [.string x.f0, .string x.f1, .bool x.f2, .string x.f3, .string x.f4, .string x.f5, .string x.f6] := ⟨[.string x.f0], [.string x.f1, .bool x.f2, .string x.f3, .string x.f4, .string x.f5, .string x.f6], rfl, rfl, ⟨[.string x.f1], [.bool x.f2, .string x.f3, .string x.f4, .string x.f5, .string x.f6], rfl, rfl, ⟨[.bool x.f2], [.string x.f3, .string x.f4, .string x.f5, .string x.f6], rfl, rfl, ⟨[.string x.f3], [.string x.f4, .string x.f5, .string x.f6], rfl, rfl, ⟨[.string x.f4], [.string x.f5, .string x.f6], rfl, rfl, ⟨[.string x.f5], [.string x.f6], rfl, rfl, rfl⟩⟩⟩⟩⟩⟩
def rd_T26 (xs : List S26) (i : Int) : S26 := xs.getD i.toNat z26
theorem at_T26 {w : World} {A : Option Addr} {n : Nat} {xs : List S26} (h : Kd.C k26 w A n xs) (i : Int) (h0 : 0 ≤ i) (h1 : i < n) : ∃ ad , A = some ad ∧ w.cell? (ad.add (i.toNat * 7)) = some (.string (rd_T26 xs i).f0) ∧ w.cell? ⟨(ad.add (i.toNat * 7)).block, (ad.add (i.toNat * 7)).off + 1, none⟩ = some (.string (rd_T26 xs i).f1) ∧ w.cell? ⟨(ad.add (i.toNat * 7)).block, (ad.add (i.toNat * 7)).off + 2, none⟩ = some (.bool (rd_T26 xs i).f2) ∧ w.cell? ⟨(ad.add (i.toNat * 7)).block, (ad.add (i.toNat * 7)).off + 3, none⟩ = some (.string (rd_T26 xs i).f3) ∧ w.cell? ⟨(ad.add (i.toNat * 7)).block, (ad.add (i.toNat * 7)).off + 4, none⟩ = some (.string (rd_T26 xs i).f4) ∧ w.cell? ⟨(ad.add (i.toNat * 7)).block, (ad.add (i.toNat * 7)).off + 5, none⟩ = some (.string (rd_T26 xs i).f5) ∧ w.cell? ⟨(ad.add (i.toNat * 7)).block, (ad.add (i.toNat * 7)).off + 6, none⟩ = some (.string (rd_T26 xs i).f6) := by
  obtain ⟨ad, c, e, _, hK, hc0⟩ := Kd.C_get h z26 i h0 h1
  have hc : ∀ j u, c[j]? = some u → w.cell? (ad.add (i.toNat * 7 + j)) = some u := hc0
  obtain rfl := k26_open hK
  exact ⟨ad, e, hc 0 _ rfl, by rw [← add_field _ _ 1 (by omega)]; exact hc 1 _ rfl, by rw [← add_field _ _ 2 (by omega)]; exact hc 2 _ rfl, by rw [← add_field _ _ 3 (by omega)]; exact hc 3 _ rfl, by rw [← add_field _ _ 4 (by omega)]; exact hc 4 _ rfl, by rw [← add_field _ _ 5 (by omega)]; exact hc 5 _ rfl, by rw [← add_field _ _ 6 (by omega)]; exact hc 6 _ rfl⟩

/-! #### struct type 46 -/
structure S46 where
  f0 : ByteArray
  f1 : Int
  f2 : Int
def z46 : S46 := ⟨(⟨#[]⟩ : ByteArray), (0 : Int), (0 : Int)⟩
def k46 : Kd S46 := Kd.iso (Kd.pair Kd.string (Kd.pair (Kd.int .i64) (Kd.int .i64))) (fun x : S46 => (x.f0, x.f1, x.f2))
theorem k46_open {w : World} {x : S46} {cs : List Value} (h : k46.K w x cs) : cs = [.string x.f0, .int .i64 x.f1, .int .i64 x.f2] := by
  obtain ⟨_, _, rfl, rfl, ⟨_, _, rfl, rfl, rfl⟩⟩ := h
  exact rfl
theorem k46_openM {w : World} {base : Nat} {ok : Nat → Prop} {x : S46} {cs : List Value} (h : k46.M w base ok x cs) : cs = [.string x.f0, .int .i64 x.f1, .int .i64 x.f2] := by
  obtain ⟨_, _, rfl, rfl, ⟨_, _, rfl, rfl, rfl⟩⟩ := h
  exact rfl
theorem k46_mk (w : World) (x : S46)  : k46.K w x [.string x.f0, .int .i64 x.f1, .int .i64 x.f2] := ⟨[.string x.f0], [.int .i64 x.f1, .int .i64 x.f2], rfl, rfl, ⟨[.int .i64 x.f1], [.int .i64 x.f2], rfl, rfl, rfl⟩⟩
theorem k46_mkM (w : World) (base : Nat) (ok : Nat → Prop) (x : S46)  : k46.M w base ok x [.string x.f0, .int .i64 x.f1, .int .i64 x.f2] := ⟨[.string x.f0], [.int .i64 x.f1, .int .i64 x.f2], rfl, rfl, ⟨[.int .i64 x.f1], [.int .i64 x.f2], rfl, rfl, rfl⟩⟩
def rd_T46 (xs : List S46) (i : Int) : S46 := xs.getD i.toNat z46
theorem at_T46 {w : World} {A : Option Addr} {n : Nat} {xs : List S46} (h : Kd.C k46 w A n xs) (i : Int) (h0 : 0 ≤ i) (h1 : i < n) : ∃ ad , A = some ad ∧ w.cell? (ad.add (i.toNat * 3)) = some (.string (rd_T46 xs i).f0) ∧ w.cell? ⟨(ad.add (i.toNat * 3)).block, (ad.add (i.toNat * 3)).off + 1, none⟩ = some (.int .i64 (rd_T46 xs i).f1) ∧ w.cell? ⟨(ad.add (i.toNat * 3)).block, (ad.add (i.toNat * 3)).off + 2, none⟩ = some (.int .i64 (rd_T46 xs i).f2) := by
  obtain ⟨ad, c, e, _, hK, hc0⟩ := Kd.C_get h z46 i h0 h1
  have hc : ∀ j u, c[j]? = some u → w.cell? (ad.add (i.toNat * 3 + j)) = some u := hc0
  obtain rfl := k46_open hK
  exact ⟨ad, e, hc 0 _ rfl, by rw [← add_field _ _ 1 (by omega)]; exact hc 1 _ rfl, by rw [← add_field _ _ 2 (by omega)]; exact hc 2 _ rfl⟩

/-! #### struct type 42 -/
structure S42 where
  f0 : Int
  f1 : Int
def z42 : S42 := ⟨(0 : Int), (0 : Int)⟩
def k42 : Kd S42 := Kd.iso (Kd.pair (Kd.int .i64) (Kd.int .i64)) (fun x : S42 => (x.f0, x.f1))
theorem k42_open {w : World} {x : S42} {cs : List Value} (h : k42.K w x cs) : cs = [.int .i64 x.f0, .int .i64 x.f1] := by
  obtain ⟨_, _, rfl, rfl, rfl⟩ := h
  exact rfl
theorem k42_openM {w : World} {base : Nat} {ok : Nat → Prop} {x : S42} {cs : List Value} (h : k42.M w base ok x cs) : cs = [.int .i64 x.f0, .int .i64 x.f1] := by
  obtain ⟨_, _, rfl, rfl, rfl⟩ := h
  exact rfl
theorem k42_mk (w : World) (x : S42)  : k42.K w x [.int .i64 x.f0, .int .i64 x.f1] := ⟨[.int .i64 x.f0], [.int .i64 x.f1], rfl, rfl, rfl⟩
theorem k42_mkM (w : World) (base : Nat) (ok : Nat → Prop) (x : S42)  : k42.M w base ok x [.int .i64 x.f0, .int .i64 x.f1] := ⟨[.int .i64 x.f0], [.int .i64 x.f1], rfl, rfl, rfl⟩
def rd_T42 (xs : List S42) (i : Int) : S42 := xs.getD i.toNat z42
theorem at_T42 {w : World} {A : Option Addr} {n : Nat} {xs : List S42} (h : Kd.C k42 w A n xs) (i : Int) (h0 : 0 ≤ i) (h1 : i < n) : ∃ ad , A = some ad ∧ w.cell? (ad.add (i.toNat * 2)) = some (.int .i64 (rd_T42 xs i).f0) ∧ w.cell? ⟨(ad.add (i.toNat * 2)).block, (ad.add (i.toNat * 2)).off + 1, none⟩ = some (.int .i64 (rd_T42 xs i).f1) := by
  obtain ⟨ad, c, e, _, hK, hc0⟩ := Kd.C_get h z42 i h0 h1
  have hc : ∀ j u, c[j]? = some u → w.cell? (ad.add (i.toNat * 2 + j)) = some u := hc0
  obtain rfl := k42_open hK
  exact ⟨ad, e, hc 0 _ rfl, by rw [← add_field _ _ 1 (by omega)]; exact hc 1 _ rfl⟩

/-! #### struct type 44 -/
structure S44 where
  f0 : ByteArray
  f1 : S42
def z44 : S44 := ⟨(⟨#[]⟩ : ByteArray), z42⟩
def k44 : Kd S44 := Kd.iso (Kd.pair Kd.string k42) (fun x : S44 => (x.f0, x.f1))
theorem k44_open {w : World} {x : S44} {cs : List Value} (h : k44.K w x cs) : cs = [.string x.f0, .int .i64 x.f1.f0, .int .i64 x.f1.f1] := by
  obtain ⟨_, _, rfl, rfl, s1⟩ := h
  obtain rfl := k42_open s1
  exact rfl
theorem k44_openM {w : World} {base : Nat} {ok : Nat → Prop} {x : S44} {cs : List Value} (h : k44.M w base ok x cs) : cs = [.string x.f0, .int .i64 x.f1.f0, .int .i64 x.f1.f1] := by
  obtain ⟨_, _, rfl, rfl, s1⟩ := h
  obtain rfl := k42_openM s1
  exact rfl
theorem k44_mk (w : World) (x : S44)  : k44.K w x [.string x.f0, .int .i64 x.f1.f0, .int .i64 x.f1.f1] := ⟨[.string x.f0], [.int .i64 x.f1.f0, .int .i64 x.f1.f1], rfl, rfl, (k42_mk w x.f1 )⟩
theorem k44_mkM (w : World) (base : Nat) (ok : Nat → Prop) (x : S44)  : k44.M w base ok x [.string x.f0, .int .i64 x.f1.f0, .int .i64 x.f1.f1] := ⟨[.string x.f0], [.int .i64 x.f1.f0, .int .i64 x.f1.f1], rfl, rfl, (k42_mkM w base ok x.f1 )⟩
def rd_T44 (xs : List S44) (i : Int) : S44 := xs.getD i.toNat z44
theorem at_T44 {w : World} {A : Option Addr} {n : Nat} {xs : List S44} (h : Kd.C k44 w A n xs) (i : Int) (h0 : 0 ≤ i) (h1 : i < n) : ∃ ad , A = some ad ∧ w.cell? (ad.add (i.toNat * 3)) = some (.string (rd_T44 xs i).f0) ∧ w.cell? ⟨(ad.add (i.toNat * 3)).block, (ad.add (i.toNat * 3)).off + 1, none⟩ = some (.int .i64 (rd_T44 xs i).f1.f0) ∧ w.cell? ⟨(ad.add (i.toNat * 3)).block, (ad.add (i.toNat * 3)).off + 2, none⟩ = some (.int .i64 (rd_T44 xs i).f1.f1) := by
  obtain ⟨ad, c, e, _, hK, hc0⟩ := Kd.C_get h z44 i h0 h1
  have hc : ∀ j u, c[j]? = some u → w.cell? (ad.add (i.toNat * 3 + j)) = some u := hc0
  obtain rfl := k44_open hK
  exact ⟨ad, e, hc 0 _ rfl, by rw [← add_field _ _ 1 (by omega)]; exact hc 1 _ rfl, by rw [← add_field _ _ 2 (by omega)]; exact hc 2 _ rfl⟩

/-! #### struct type 52 -/
structure S52 where
  f0 : ByteArray
  f1 : Int
def z52 : S52 := ⟨(⟨#[]⟩ : ByteArray), (0 : Int)⟩
def k52 : Kd S52 := Kd.iso (Kd.pair Kd.string (Kd.int .i64)) (fun x : S52 => (x.f0, x.f1))
theorem k52_open {w : World} {x : S52} {cs : List Value} (h : k52.K w x cs) : cs = [.string x.f0, .int .i64 x.f1] := by
  obtain ⟨_, _, rfl, rfl, rfl⟩ := h
  exact rfl
theorem k52_openM {w : World} {base : Nat} {ok : Nat → Prop} {x : S52} {cs : List Value} (h : k52.M w base ok x cs) : cs = [.string x.f0, .int .i64 x.f1] := by
  obtain ⟨_, _, rfl, rfl, rfl⟩ := h
  exact rfl
theorem k52_mk (w : World) (x : S52)  : k52.K w x [.string x.f0, .int .i64 x.f1] := ⟨[.string x.f0], [.int .i64 x.f1], rfl, rfl, rfl⟩
theorem k52_mkM (w : World) (base : Nat) (ok : Nat → Prop) (x : S52)  : k52.M w base ok x [.string x.f0, .int .i64 x.f1] := ⟨[.string x.f0], [.int .i64 x.f1], rfl, rfl, rfl⟩
def rd_T52 (xs : List S52) (i : Int) : S52 := xs.getD i.toNat z52
theorem at_T52 {w : World} {A : Option Addr} {n : Nat} {xs : List S52} (h : Kd.C k52 w A n xs) (i : Int) (h0 : 0 ≤ i) (h1 : i < n) : ∃ ad , A = some ad ∧ w.cell? (ad.add (i.toNat * 2)) = some (.string (rd_T52 xs i).f0) ∧ w.cell? ⟨(ad.add (i.toNat * 2)).block, (ad.add (i.toNat * 2)).off + 1, none⟩ = some (.int .i64 (rd_T52 xs i).f1) := by
  obtain ⟨ad, c, e, _, hK, hc0⟩ := Kd.C_get h z52 i h0 h1
  have hc : ∀ j u, c[j]? = some u → w.cell? (ad.add (i.toNat * 2 + j)) = some u := hc0
  obtain rfl := k52_open hK
  exact ⟨ad, e, hc 0 _ rfl, by rw [← add_field _ _ 1 (by omega)]; exact hc 1 _ rfl⟩

end Go.Proofs.YtnajekpckbfcdaaGreatDoor.PFnParseDecs
