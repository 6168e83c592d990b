/-
  The thin package at blanks and errors; textAwake, textJoined, textParts.
-/
import Derived.Test.YtnajekpckbfcdaaGreatDoorM15
import Derived.Test.YtnajekpckbfcdaaGreatDoorM13
import Derived.Test.YtnajekpckbfcdaaGreatDoorM01
set_option linter.unusedVariables false
set_option linter.unusedSimpArgs false
namespace Go.Proofs.YtnajekpckbfcdaaGreatDoor
open Go.RowKit

theorem nil_err (p : Addr) (w : World) : (nilAhead 439 148 (.pointer (some p)) "Error").run Tryz.prog w = .ok (some false) w := by kernel_rfl
theorem meth_err (p : Addr) (w : World) : (method 439 148 (.pointer (some p)) "Error").run Tryz.prog w = .ok (344, .pointer (some p)) w := by kernel_rfl
theorem Error_344 (p : Nat) (s : ByteArray) (w : World) (h : Blk w p 150 #[.string s]) : Calls Tryz.prog 344 #[.pointer (some ⟨p, 0, none⟩)] w fun e w' => e = .returned (.string s) ∧ w = w' := by
  have c := h.one
  go_enter Tryz.func344, Tryz.ntmps344
  go_wp2
  go_ret
  exact ⟨rfl, rfl⟩

theorem backCoins_nil (w : World) : Calls Tryz.prog 30 #[.slice none 0 0] w fun e w' => e = .returned (.tuple #[.slice none 0 0, .bool true]) ∧ w = w' := by
  go_enter Tryz.func30, Tryz.ntmps30
  go_wp2
  refine wp_loop_rounds 1 ?_
  rw [rounds_succ]
  go_wp2
  go_ret2
  exact ⟨rfl, rfl⟩

/-- An empty registry. -/
def RegRes (w : World) (e : Ending) (w' : World) : Prop := ∃ p mv, e = .returned (.pointer (some ⟨p, 0, none⟩)) ∧ Blk w' p 129 #[mv, .string ⟨#[]⟩] ∧ Upd [] w w'
theorem NewRegistry_46 (w : World) : Calls Tryz.prog 46 #[] w (RegRes w) := by
  have hmm := @run_makeMap Tryz.prog
  go_enter Tryz.func46, Tryz.ntmps46
  go_wp2
  go_ret
  have := Blk.new (w.alloc (.map #[] 0)) 129 #[.map (some w.heap.size), .string ⟨#[]⟩]
  rw [World.size_alloc] at this
  exact ⟨_, _, rfl, this, ((Upd.refl _ _).alloc _).alloc _⟩
theorem registry_nil (w : World) : Calls Tryz.prog 28 #[.slice none 0 0] w (RegRes w) := by
  go_enter Tryz.func28, Tryz.ntmps28
  go_wp2_with fail
  refine (NewRegistry_46 _).mono ?_
  rintro e w2 ⟨p, mv, rfl, hb, hu⟩
  go_wp2_with fail
  refine wp_loop_rounds 1 ?_
  rw [rounds_succ]
  go_wp2
  go_ret
  exact ⟨p, mv, rfl, hb, hu⟩

theorem q58 (w : World) (a : Option Addr) (n c : Nat) : (binOp .eql 58 (.slice a n c) (.slice none 0 0)).run Tryz.prog w = .ok (.bool a.isNone) w :=
  Lib.run_eql_slice_nil w 58 87 a n c 0 0 Tryz.underlying58
theorem NormalizeCoins_nil (p : Addr) (w : World) : Calls Tryz.prog 50 #[.pointer (some p), .slice none 0 0] w fun e w' => e = .returned (.slice none 0 0) ∧ w = w' := by
  have Q := q58
  go_enter Tryz.func50, Tryz.ntmps50
  go_wp2
  go_ret
  exact ⟨rfl, rfl⟩

theorem PCN_blank (p : Addr) (l : List UInt8) (hl : trim l = []) (hll : l.length ≤ 100000) (w : World) :
    Calls Tryz.prog 29 #[.pointer (some p), .string (bs l)] w fun e w' => e = .returned (.tuple #[.slice none 0 0, .nilIface]) ∧ Upd [] w w' := by
  have HP := hide (fun w => ParseDecCoins_blank l hl hll w)
  have nn := n_nil_nil
  clear hl hll
  go_enter Tryz.func29, Tryz.ntmps29
  go_wp2_with fail
  refine (HP.out _).mono ?_
  rintro e w2 ⟨rfl, hu⟩
  go_wp2_with fail
  refine (NormalizeCoins_nil _ _).mono ?_
  rintro e w3 ⟨rfl, rfl⟩
  go_wp2
  go_ret2
  exact ⟨rfl, hu⟩
theorem ParseCoins_blank (l : List UInt8) (hl : trim l = []) (hll : l.length ≤ 100000) (w : World) :
    Calls Tryz.prog 12 #[.slice none 0 0, .string (bs l)] w fun e w' => e = .returned (.tuple #[.slice none 0 0, .string ⟨#[]⟩]) ∧ Upd [] w w' := by
  have HP := hide (fun p w => PCN_blank p l hl hll w)
  have nn := n_nil_nil
  clear hl hll
  go_enter Tryz.func12, Tryz.ntmps12
  go_wp2_with fail
  refine (registry_nil _).mono ?_
  rintro e w1 ⟨pr, mv, rfl, hb, hu1⟩
  go_wp2_with fail
  refine (HP.out _ _).mono ?_
  rintro e w2 ⟨rfl, hu⟩
  have u2 := hu1.on0 hu
  clear HP hb
  go_wp2_with fail
  refine (backCoins_nil _).mono ?_
  rintro e w3 ⟨rfl, rfl⟩
  go_wp2
  go_ret2
  exact ⟨rfl, u2⟩
end Go.Proofs.YtnajekpckbfcdaaGreatDoor

namespace Go.Proofs.YtnajekpckbfcdaaGreatDoor
open Go.RowKit

set_option maxRecDepth 20000 in
set_option maxHeartbeats 1000000 in
theorem ParseDec_ok (p : Part) (h : p.Ok) (d : List UInt8) (m : Nat) (hr : p.rd = some (d, m)) (hm : m < 9223372036854775808 * 1000000000000000000) (l : List UInt8) (hl : trim l = p.core) (hll : l.length ≤ 100000) (w : World) (hG : Gl w) :
    Calls Tryz.prog 24 #[.string (bs l)] w fun e w' => e = .returned (.tuple #[.agg #[.string (bs d), .int .i64 (m / 1000000000000000000 : Nat), .int .i64 (m % 1000000000000000000 : Nat)], .string ⟨#[]⟩]) ∧ Upd [] w w' := by
  have HP := hide (fun w hG => ParseDecCoin_some p h d m hr l hl hll w hG)
  have HB := hide (fun w d q A hI => backOne_nat w d q A m hI hm)
  clear h hr hl hll hm
  generalize m / 1000000000000000000 = a at *
  generalize m % 1000000000000000000 = b at *
  have nn := n_nil_nil
  go_enter Tryz.func24, Tryz.ntmps24
  go_wp2_with fail
  have hR := Blk.new w 44 #[.string ⟨#[]⟩, .int .i64 0, .int .i64 0]
  have u1 := (Upd.refl [] w).alloc (.cells #[.string ⟨#[]⟩, .int .i64 0, .int .i64 0] 44)
  refine (HP.out _ (hG.grow u1)).mono ?_
  rintro e w2 ⟨q, A, rfl, hI, hu2, hq, hA⟩
  have u2 := u1.on0 hu2
  have hR2 := hR.grow hu2
  have u3 := u2.alloc (.cells #[.string (bs d), .pointer (some ⟨q, 0, none⟩)] 87)
  have hR3 := hR2.alloc (.cells #[.string (bs d), .pointer (some ⟨q, 0, none⟩)] 87)
  have hT3 := Blk.new w2 87 #[.string (bs d), .pointer (some ⟨q, 0, none⟩)]
  have hI3 := hI.alloc (.cells #[.string (bs d), .pointer (some ⟨q, 0, none⟩)] 87)
  clear HP hu2 u1 hR hA hI u2 hR2
  go_upto_region 4 with (fail)
  have y0 := hT3.fst
  have y1 := hT3.snd
  go_wp2_with fail
  refine (HB.out _ (bs d) q A hI3).mono ?_
  rintro e w4 ⟨rfl, hu4⟩
  have u4 := u3.on0 hu4
  have hR4 := hR3.grow hu4
  have u5 := u4.alloc (.cells #[.string (bs d), .int .i64 a, .int .i64 b] 44)
  have hR5 := hR4.alloc (.cells #[.string (bs d), .int .i64 a, .int .i64 b] 44)
  have hT5 := Blk.new w4 44 #[.string (bs d), .int .i64 a, .int .i64 b]
  clear HB hu4 u3 hR3 hT3 hI3 y0 y1 nn hR4 u4
  go_upto_region 7 with (fail)
  obtain ⟨Y, hY⟩ : ∃ Y, w4.heap.size = Y := ⟨_, rfl⟩
  rw [hY] at hT5 ⊢
  generalize w4.alloc (.cells #[.string (bs d), .int .i64 a, .int .i64 b] 44) = w5 at *
  clear hY
  have y0 := hT5.c3a
  have y1 := hT5.c3b
  have y2 := hT5.c3
  have r0 := hR5.c3a
  have r1 := hR5.c3b
  have r2 := hR5.c3
  have f0 := hR5.frozen 0
  have f1 := hR5.frozen 1
  have f2 := hR5.frozen 2
  have hl5 := hR5.lt
  go_wp2
  refine bodyPost_ret (v := .tuple #[.agg #[.string (bs d), .int .i64 a, .int .i64 b], .string ⟨#[]⟩]) (by simp [results, Tryz.results24, r0, r1, r2, hl5, go_sem]) rfl ?_
  exact ⟨rfl, ((u5.setCell (by simp) _).setCell (by simp) _).setCell (by simp) _⟩

/-- 5abc -/
def part5 : Part := ⟨[], [53], false, [], [], [97, 98, 99], []⟩
theorem part5_ok : part5.Ok := by
  constructor <;> first | decide | (intro x hx; simp [part5] at hx; first | subst hx; decide | (rcases hx with rfl | rfl | rfl <;> decide))
theorem part5_rd : part5.rd = some ([97, 98, 99], 5000000000000000000) := by decide
theorem part5_core : trim [53, 97, 98, 99] = part5.core := by decide

set_option maxRecDepth 20000 in
theorem textAwake_9 (w : World) (hG : Gl w) : Calls Tryz.prog 9 #[] w fun e w' => e = .returned (.bool true) ∧ Upd [] w w' := by
  have HP := hide (ParseDec_ok part5 part5_ok _ _ part5_rd (by decide) [53, 97, 98, 99] part5_core (by simp) w hG)
  rw [show 5000000000000000000 / 1000000000000000000 = 5 from rfl, show 5000000000000000000 % 1000000000000000000 = 0 from rfl] at HP
  go_enter Tryz.func9, Tryz.ntmps9
  go_wp2_with fail
  refine HP.out.mono ?_
  rintro e w2 ⟨rfl, hu⟩
  have hT := Blk.new w2 44 #[.string (bs [97, 98, 99]), .int .i64 (5 : Nat), .int .i64 (0 : Nat)]
  have u3 := hu.alloc (.cells #[.string (bs [97, 98, 99]), .int .i64 (5 : Nat), .int .i64 (0 : Nat)] 44)
  clear HP hu
  go_upto_region 2 with (fail)
  have y0 := hT.c3a
  have y1 := hT.c3b
  have hs := bs_toList [97, 98, 99]
  go_wp2
  go_ret
  exact ⟨by first | rfl | simp, u3⟩

end Go.Proofs.YtnajekpckbfcdaaGreatDoor

namespace Go.Proofs.YtnajekpckbfcdaaGreatDoor
open Go.RowKit

/-- A part by value. -/
abbrev PV (p : Part) : Value := .agg #[.string (bs p.before), .string (bs p.whole), .bool p.point, .string (bs p.frac), .string (bs p.mid), .string (bs p.denom), .string (bs p.after)]
open Go.Proofs.YtnajekpckbfcdaaGreatDoorW.PrintWords Go.Proofs.YtnajekpckbfcdaaGreatDoor.PFnParseDecs
theorem joinC_len (c : UInt8) (m : Nat) : ∀ ls : List (List UInt8), (∀ l ∈ ls, l.length ≤ m) → (joinC c ls).length ≤ (m + 1) * ls.length
  | [], _ => by simp [joinC]
  | [x], h => by
    have := h x (by simp)
    show x.length ≤ _
    simp; omega
  | x :: y :: r, h => by
    have h1 := h x (by simp)
    have h2 := joinC_len c m (y :: r) (fun l hl => h l (List.mem_cons_of_mem _ hl))
    show (x ++ c :: joinC c (y :: r)).length ≤ _
    simp only [List.length_append, List.length_cons, Nat.mul_add, Nat.mul_one] at h2 ⊢
    omega
theorem joinC_take (c : UInt8) (ls : List (List UInt8)) (k : Nat) (h : k < ls.length) (h0 : 0 < k) : joinC c (ls.take (k + 1)) = joinC c (ls.take k) ++ c :: ls[k] := by
  rw [List.take_succ_eq_append_getElem h]
  exact joinC_snoc c _ _ (by intro e; have := congrArg List.length e; rw [List.length_take, List.length_nil] at this; omega)

end Go.Proofs.YtnajekpckbfcdaaGreatDoor

namespace Go.Proofs.YtnajekpckbfcdaaGreatDoor
open Go.RowKit Go.Proofs.YtnajekpckbfcdaaGreatDoorW.PrintWords Go.Proofs.YtnajekpckbfcdaaGreatDoor.PFnParseDecs

/-- What zzFits9 asks of a part. -/
def Small (x : S26) : Prop := x.f0.size ≤ 2147483647 ∧ x.f1.size ≤ 2147483647 ∧ x.f3.size ≤ 2147483647 ∧ x.f4.size ≤ 2147483647 ∧ x.f5.size ≤ 2147483647 ∧ x.f6.size ≤ 2147483647
end Go.Proofs.YtnajekpckbfcdaaGreatDoor

namespace Go.Proofs.YtnajekpckbfcdaaGreatDoor
open Go.RowKit Go.Proofs.YtnajekpckbfcdaaGreatDoorW.PrintWords Go.Proofs.YtnajekpckbfcdaaGreatDoor.PFnParseDecs

end Go.Proofs.YtnajekpckbfcdaaGreatDoor

namespace Go.Proofs.YtnajekpckbfcdaaGreatDoor
open Go.RowKit Go.Proofs.YtnajekpckbfcdaaGreatDoorW.PrintWords Go.Proofs.YtnajekpckbfcdaaGreatDoor.PFnParseDecs

theorem str_ne {s : ByteArray} (h : 0 < s.size) : ¬ s.toList = [] ∧ (s.toList.isEmpty) = false ∧ (s.toList == []) = false := by
  have hne : s.toList ≠ [] := by
    intro e
    have := congrArg List.length e
    rw [ByteArray.toList_eq] at this
    simp at this
    rw [this] at h
    exact absurd h (by decide)
  refine ⟨hne, ?_, ?_⟩
  · cases hh : s.toList with
    | nil => exact absurd hh hne
    | cons a r => rfl
  · rw [beq_eq_false_iff_ne]; exact hne
end Go.Proofs.YtnajekpckbfcdaaGreatDoor
