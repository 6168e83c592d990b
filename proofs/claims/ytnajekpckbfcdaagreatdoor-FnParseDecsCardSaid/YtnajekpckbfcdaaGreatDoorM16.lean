/-
  The thin package at blanks and errors; textAwake, textJoined, textParts.
-/
import Derived.Test.YtnajekpckbfcdaaGreatDoorM15
import Derived.Test.YtnajekpckbfcdaaGreatDoorM13
import Derived.Test.YtnajekpckbfcdaaGreatDoorM01
set_option linter.unusedVariables false
set_option linter.unusedSimpArgs false
namespace Go.Proofs.YtnajekpckbfcdaaGreatDoor
open Go.RowKit

theorem nil_err (p : Addr) (w : World) : (nilAhead 439 148 (.pointer (some p)) "Error").run Tryz.prog w = .ok (some false) w := by kernel_rfl
theorem meth_err (p : Addr) (w : World) : (method 439 148 (.pointer (some p)) "Error").run Tryz.prog w = .ok (344, .pointer (some p)) w := by kernel_rfl
theorem Error_344 (p : Nat) (s : ByteArray) (w : World) (h : Blk w p 150 #[.string s]) : Calls Tryz.prog 344 #[.pointer (some ⟨p, 0, none⟩)] w fun e w' => e = .returned (.string s) ∧ w = w' := by
  have c := h.one
  go_enter Tryz.func344, Tryz.ntmps344
  go_wp2
  go_ret
  exact ⟨rfl, rfl⟩

def TextErr (w : World) (e : Ending) (w' : World) : Prop := ∃ s, e = .returned (.tuple #[.slice none 0 0, .string s]) ∧ 0 < s.size ∧ Upd [] w w'

theorem ParseDecs_err (ps : List Part) (hok : ∀ p ∈ ps, p.Ok) (hbad : ∃ p ∈ ps, p.rd = none) (l : List UInt8) (hJ : (spl 44 l).map trim = ps.map Part.core) (hll : l.length ≤ 10000) (hne : trim l ≠ []) (w : World) (hG : Gl w) :
    Calls Tryz.prog 11 #[.string (bs l)] w (TextErr w) := by
  have HP := hide (fun w hG => ParseDecCoins_err ps hok hbad l hJ hll hne w hG)
  clear hbad hJ hll hne
  have n1 := nil_err
  have n2 := meth_err
  go_enter Tryz.func11, Tryz.ntmps11
  go_wp2_with fail
  refine (HP.out _ hG).mono ?_
  rintro e w2 ⟨v, s, rfl, ⟨p, rfl, hp⟩, hs, hu⟩
  have nn := n_eof_nil ⟨p, 0, none⟩
  have HE := hide (Error_344 p s w2 hp)
  clear HP hp hG hok
  go_wp2_with fail
  refine HE.out.mono ?_
  rintro e w3 ⟨rfl, rfl⟩
  go_wp2
  go_ret2
  exact ⟨s, rfl, hs, hu⟩

/-- An empty registry. -/
def RegRes (w : World) (e : Ending) (w' : World) : Prop := ∃ p mv, e = .returned (.pointer (some ⟨p, 0, none⟩)) ∧ Blk w' p 129 #[mv, .string ⟨#[]⟩] ∧ Upd [] w w'
theorem NewRegistry_46 (w : World) : Calls Tryz.prog 46 #[] w (RegRes w) := by
  have hmm := @run_makeMap Tryz.prog
  go_enter Tryz.func46, Tryz.ntmps46
  go_wp2
  go_ret
  have := Blk.new (w.alloc (.map #[] 0)) 129 #[.map (some w.heap.size), .string ⟨#[]⟩]
  rw [World.size_alloc] at this
  exact ⟨_, _, rfl, this, ((Upd.refl _ _).alloc _).alloc _⟩
theorem registry_nil (w : World) : Calls Tryz.prog 28 #[.slice none 0 0] w (RegRes w) := by
  go_enter Tryz.func28, Tryz.ntmps28
  go_wp2_with fail
  refine (NewRegistry_46 _).mono ?_
  rintro e w2 ⟨p, mv, rfl, hb, hu⟩
  go_wp2_with fail
  refine wp_loop_rounds 1 ?_
  rw [rounds_succ]
  go_wp2
  go_ret
  exact ⟨p, mv, rfl, hb, hu⟩

theorem q58 (w : World) (a : Option Addr) (n c : Nat) : (binOp .eql 58 (.slice a n c) (.slice none 0 0)).run Tryz.prog w = .ok (.bool a.isNone) w :=
  Lib.run_eql_slice_nil w 58 87 a n c 0 0 Tryz.underlying58
theorem PCN_err (pr : Addr) (ps : List Part) (hok : ∀ p ∈ ps, p.Ok) (hbad : ∃ p ∈ ps, p.rd = none) (l : List UInt8) (hJ : (spl 44 l).map trim = ps.map Part.core) (hll : l.length ≤ 10000) (hne : trim l ≠ []) (w : World) (hG : Gl w) :
    Calls Tryz.prog 29 #[.pointer (some pr), .string (bs l)] w fun e w' => ∃ v v0 s, e = .returned (.tuple #[v0, v]) ∧ ErrV w' v s ∧ 0 < s.size ∧ Upd [] w w' := by
  have HP := hide (fun w hG => ParseDecCoins_err ps hok hbad l hJ hll hne w hG)
  clear hbad hJ hll hne
  go_enter Tryz.func29, Tryz.ntmps29
  go_wp2_with fail
  refine (HP.out _ hG).mono ?_
  rintro e w2 ⟨v, s, rfl, ⟨p, rfl, hp⟩, hs, hu⟩
  have nn := n_eof_nil ⟨p, 0, none⟩
  clear HP hG hok
  go_wp2
  go_ret2
  exact ⟨_, _, s, rfl, ⟨p, rfl, by first | exact hp | exact hp.alloc _⟩, hs, by first | exact hu | exact hu.alloc _⟩

theorem ParseCoins_err (ps : List Part) (hok : ∀ p ∈ ps, p.Ok) (hbad : ∃ p ∈ ps, p.rd = none) (l : List UInt8) (hJ : (spl 44 l).map trim = ps.map Part.core) (hll : l.length ≤ 10000) (hne : trim l ≠ []) (w : World) (hG : Gl w) :
    Calls Tryz.prog 12 #[.slice none 0 0, .string (bs l)] w (TextErr w) := by
  have HP := hide (fun pr w hG => PCN_err pr ps hok hbad l hJ hll hne w hG)
  clear hbad hJ hll hne
  have n1 := nil_err
  have n2 := meth_err
  go_enter Tryz.func12, Tryz.ntmps12
  go_wp2_with fail
  refine (registry_nil _).mono ?_
  rintro e w1 ⟨pr, mv, rfl, hb, hu1⟩
  have hG1 := hG.grow hu1
  go_wp2_with fail
  refine (HP.out _ _ hG1).mono ?_
  rintro e w2 ⟨v, v0, s, rfl, ⟨p, rfl, hp⟩, hs, hu⟩
  have u2 := hu1.on0 hu
  have nn := n_eof_nil ⟨p, 0, none⟩
  have HE := hide (Error_344 p s w2 hp)
  clear HP hp hG hok hb hu1 hu hG1
  go_wp2_with fail
  refine HE.out.mono ?_
  rintro e w3 ⟨rfl, rfl⟩
  go_wp2
  go_ret2
  exact ⟨s, rfl, hs, u2⟩

end Go.Proofs.YtnajekpckbfcdaaGreatDoor

namespace Go.Proofs.YtnajekpckbfcdaaGreatDoor
open Go.RowKit

set_option maxRecDepth 20000 in
set_option maxHeartbeats 1000000 in
theorem ParseDec_ok (p : Part) (h : p.Ok) (d : List UInt8) (m : Nat) (hr : p.rd = some (d, m)) (hm : m < 9223372036854775808 * 1000000000000000000) (l : List UInt8) (hl : trim l = p.core) (hll : l.length ≤ 100000) (w : World) (hG : Gl w) :
    Calls Tryz.prog 24 #[.string (bs l)] w fun e w' => e = .returned (.tuple #[.agg #[.string (bs d), .int .i64 (m / 1000000000000000000 : Nat), .int .i64 (m % 1000000000000000000 : Nat)], .string ⟨#[]⟩]) ∧ Upd [] w w' := by
  have HP := hide (fun w hG => ParseDecCoin_some p h d m hr l hl hll w hG)
  have HB := hide (fun w d q A hI => backOne_nat w d q A m hI hm)
  clear h hr hl hll hm
  generalize m / 1000000000000000000 = a at *
  generalize m % 1000000000000000000 = b at *
  have nn := n_nil_nil
  go_enter Tryz.func24, Tryz.ntmps24
  go_wp2_with fail
  have hR := Blk.new w 44 #[.string ⟨#[]⟩, .int .i64 0, .int .i64 0]
  have u1 := (Upd.refl [] w).alloc (.cells #[.string ⟨#[]⟩, .int .i64 0, .int .i64 0] 44)
  refine (HP.out _ (hG.grow u1)).mono ?_
  rintro e w2 ⟨q, A, rfl, hI, hu2, hq, hA⟩
  have u2 := u1.on0 hu2
  have hR2 := hR.grow hu2
  have u3 := u2.alloc (.cells #[.string (bs d), .pointer (some ⟨q, 0, none⟩)] 87)
  have hR3 := hR2.alloc (.cells #[.string (bs d), .pointer (some ⟨q, 0, none⟩)] 87)
  have hT3 := Blk.new w2 87 #[.string (bs d), .pointer (some ⟨q, 0, none⟩)]
  have hI3 := hI.alloc (.cells #[.string (bs d), .pointer (some ⟨q, 0, none⟩)] 87)
  clear HP hu2 u1 hR hA hI u2 hR2
  go_upto_region 4 with (fail)
  have y0 := hT3.fst
  have y1 := hT3.snd
  go_wp2_with fail
  refine (HB.out _ (bs d) q A hI3).mono ?_
  rintro e w4 ⟨rfl, hu4⟩
  have u4 := u3.on0 hu4
  have hR4 := hR3.grow hu4
  have u5 := u4.alloc (.cells #[.string (bs d), .int .i64 a, .int .i64 b] 44)
  have hR5 := hR4.alloc (.cells #[.string (bs d), .int .i64 a, .int .i64 b] 44)
  have hT5 := Blk.new w4 44 #[.string (bs d), .int .i64 a, .int .i64 b]
  clear HB hu4 u3 hR3 hT3 hI3 y0 y1 nn hR4 u4
  go_upto_region 7 with (fail)
  obtain ⟨Y, hY⟩ : ∃ Y, w4.heap.size = Y := ⟨_, rfl⟩
  rw [hY] at hT5 ⊢
  generalize w4.alloc (.cells #[.string (bs d), .int .i64 a, .int .i64 b] 44) = w5 at *
  clear hY
  have y0 := hT5.c3a
  have y1 := hT5.c3b
  have y2 := hT5.c3
  have r0 := hR5.c3a
  have r1 := hR5.c3b
  have r2 := hR5.c3
  have f0 := hR5.frozen 0
  have f1 := hR5.frozen 1
  have f2 := hR5.frozen 2
  have hl5 := hR5.lt
  go_wp2
  refine bodyPost_ret (v := .tuple #[.agg #[.string (bs d), .int .i64 a, .int .i64 b], .string ⟨#[]⟩]) (by simp [results, Tryz.results24, r0, r1, r2, hl5, go_sem]) rfl ?_
  exact ⟨rfl, ((u5.setCell (by simp) _).setCell (by simp) _).setCell (by simp) _⟩

/-- 5abc -/
def part5 : Part := ⟨[], [53], false, [], [], [97, 98, 99], []⟩
theorem part5_ok : part5.Ok := by
  constructor <;> first | decide | (intro x hx; simp [part5] at hx; first | subst hx; decide | (rcases hx with rfl | rfl | rfl <;> decide))
theorem part5_rd : part5.rd = some ([97, 98, 99], 5000000000000000000) := by decide
theorem part5_core : trim [53, 97, 98, 99] = part5.core := by decide

set_option maxRecDepth 20000 in
theorem textAwake_9 (w : World) (hG : Gl w) : Calls Tryz.prog 9 #[] w fun e w' => e = .returned (.bool true) ∧ Upd [] w w' := by
  have HP := hide (ParseDec_ok part5 part5_ok _ _ part5_rd (by decide) [53, 97, 98, 99] part5_core (by simp) w hG)
  rw [show 5000000000000000000 / 1000000000000000000 = 5 from rfl, show 5000000000000000000 % 1000000000000000000 = 0 from rfl] at HP
  go_enter Tryz.func9, Tryz.ntmps9
  go_wp2_with fail
  refine HP.out.mono ?_
  rintro e w2 ⟨rfl, hu⟩
  have hT := Blk.new w2 44 #[.string (bs [97, 98, 99]), .int .i64 (5 : Nat), .int .i64 (0 : Nat)]
  have u3 := hu.alloc (.cells #[.string (bs [97, 98, 99]), .int .i64 (5 : Nat), .int .i64 (0 : Nat)] 44)
  clear HP hu
  go_upto_region 2 with (fail)
  have y0 := hT.c3a
  have y1 := hT.c3b
  have hs := bs_toList [97, 98, 99]
  go_wp2
  go_ret
  exact ⟨by first | rfl | simp, u3⟩

end Go.Proofs.YtnajekpckbfcdaaGreatDoor

namespace Go.Proofs.YtnajekpckbfcdaaGreatDoor
open Go.RowKit

theorem Text_raw_point (a0 a1 a3 a4 a5 a6 : ByteArray) (h0 : a0.size ≤ 1000) (h1 : a1.size ≤ 1000) (h3 : a3.size ≤ 1000) (h4 : a4.size ≤ 1000) (h5 : a5.size ≤ 1000) (h6 : a6.size ≤ 1000) (w : World) :
    Calls Tryz.prog 25 #[.agg #[.string a0, .string a1, .bool true, .string a3, .string a4, .string a5, .string a6]] w fun e w' => e = .returned (.string (a0 ++ a1 ++ (bs [46] ++ a3) ++ a4 ++ a5 ++ a6)) ∧ Upd [] w w' := by
  have hb := Blk.new w 26 #[.string a0, .string a1, .bool true, .string a3, .string a4, .string a5, .string a6]
  have c0 := hb.at_ (i := 0) (v := .string a0) rfl
  have c1 := hb.at_ (i := 1) (v := .string a1) rfl
  have c2 := hb.at_ (i := 2) (v := .bool true) rfl
  have c3 := hb.at_ (i := 3) (v := .string a3) rfl
  have c4 := hb.at_ (i := 4) (v := .string a4) rfl
  have c5 := hb.at_ (i := 5) (v := .string a5) rfl
  have c6 := hb.at_ (i := 6) (v := .string a6) rfl
  clear hb
  have s0 : (a0.size : Int) ≤ 8388608 := by omega
  have s1 : (a1.size : Int) ≤ 8388608 := by omega
  have s3 : (a3.size : Int) ≤ 8388608 := by omega
  have s4 : (a4.size : Int) ≤ 8388608 := by omega
  have s5 : (a5.size : Int) ≤ 8388608 := by omega
  have s6 : (a6.size : Int) ≤ 8388608 := by omega
  have s01 : ((a0 ++ a1).size : Int) ≤ 8388608 := by rw [ByteArray.size_append]; omega
  have sp : (((⟨#[46]⟩ : ByteArray) ++ a3).size : Int) ≤ 8388608 := by rw [ByteArray.size_append]; show ((1 + a3.size : Nat) : Int) ≤ _; omega
  have s013 : ((a0 ++ a1 ++ ((⟨#[46]⟩ : ByteArray) ++ a3)).size : Int) ≤ 8388608 := by rw [ByteArray.size_append, ByteArray.size_append, ByteArray.size_append]; show ((a0.size + a1.size + (1 + a3.size) : Nat) : Int) ≤ _; omega
  have s0134 : ((a0 ++ a1 ++ ((⟨#[46]⟩ : ByteArray) ++ a3) ++ a4).size : Int) ≤ 8388608 := by rw [ByteArray.size_append, ByteArray.size_append, ByteArray.size_append, ByteArray.size_append]; show ((a0.size + a1.size + (1 + a3.size) + a4.size : Nat) : Int) ≤ _; omega
  have s01345 : ((a0 ++ a1 ++ ((⟨#[46]⟩ : ByteArray) ++ a3) ++ a4 ++ a5).size : Int) ≤ 8388608 := by rw [ByteArray.size_append, ByteArray.size_append, ByteArray.size_append, ByteArray.size_append, ByteArray.size_append]; show ((a0.size + a1.size + (1 + a3.size) + a4.size + a5.size : Nat) : Int) ≤ _; omega
  go_enter Tryz.func25, Tryz.ntmps25
  go_wp2
  go_ret
  exact ⟨rfl, (Upd.refl _ _).alloc _⟩

theorem Text_raw_plain (a0 a1 a3 a4 a5 a6 : ByteArray) (h0 : a0.size ≤ 1000) (h1 : a1.size ≤ 1000) (h4 : a4.size ≤ 1000) (h5 : a5.size ≤ 1000) (h6 : a6.size ≤ 1000) (w : World) :
    Calls Tryz.prog 25 #[.agg #[.string a0, .string a1, .bool false, .string a3, .string a4, .string a5, .string a6]] w fun e w' => e = .returned (.string (a0 ++ a1 ++ a4 ++ a5 ++ a6)) ∧ Upd [] w w' := by
  have hb := Blk.new w 26 #[.string a0, .string a1, .bool false, .string a3, .string a4, .string a5, .string a6]
  have c0 := hb.at_ (i := 0) (v := .string a0) rfl
  have c1 := hb.at_ (i := 1) (v := .string a1) rfl
  have c2 := hb.at_ (i := 2) (v := .bool false) rfl
  have c4 := hb.at_ (i := 4) (v := .string a4) rfl
  have c5 := hb.at_ (i := 5) (v := .string a5) rfl
  have c6 := hb.at_ (i := 6) (v := .string a6) rfl
  clear hb
  have s0 : (a0.size : Int) ≤ 8388608 := by omega
  have s1 : (a1.size : Int) ≤ 8388608 := by omega
  have s4 : (a4.size : Int) ≤ 8388608 := by omega
  have s5 : (a5.size : Int) ≤ 8388608 := by omega
  have s6 : (a6.size : Int) ≤ 8388608 := by omega
  have s01 : ((a0 ++ a1).size : Int) ≤ 8388608 := by rw [ByteArray.size_append]; omega
  have s014 : ((a0 ++ a1 ++ a4).size : Int) ≤ 8388608 := by rw [ByteArray.size_append, ByteArray.size_append]; omega
  have s0145 : ((a0 ++ a1 ++ a4 ++ a5).size : Int) ≤ 8388608 := by rw [ByteArray.size_append, ByteArray.size_append, ByteArray.size_append]; omega
  go_enter Tryz.func25, Tryz.ntmps25
  go_wp2
  go_ret
  exact ⟨rfl, (Upd.refl _ _).alloc _⟩

/-- A part by value. -/
abbrev PV (p : Part) : Value := .agg #[.string (bs p.before), .string (bs p.whole), .bool p.point, .string (bs p.frac), .string (bs p.mid), .string (bs p.denom), .string (bs p.after)]
theorem Text_25 (p : Part) (h : p.Ok) (w : World) : Calls Tryz.prog 25 #[PV p] w fun e w' => e = .returned (.string (bs p.text)) ∧ Upd [] w w' := by
  have h1 := h.b6
  have h2 := h.m6
  have h3 := h.a6
  have h4 := h.w25
  have h5 := h.f30
  have h6 := h.d140
  have e : ∀ l : List UInt8, (bs l).size = l.length := bs_size
  cases hp : p.point with
  | true =>
    have ht : bs p.before ++ bs p.whole ++ (bs [46] ++ bs p.frac) ++ bs p.mid ++ bs p.denom ++ bs p.after = bs p.text := by
      unfold Part.text Part.num
      rw [if_pos hp]
      simp [bs_append]
    rw [← ht]
    have := Text_raw_point (bs p.before) (bs p.whole) (bs p.frac) (bs p.mid) (bs p.denom) (bs p.after) (by rw [e]; omega) (by rw [e]; omega) (by rw [e]; omega) (by rw [e]; omega) (by rw [e]; omega) (by rw [e]; omega) w
    unfold PV
    rw [hp]
    exact this
  | false =>
    have ht : bs p.before ++ bs p.whole ++ bs p.mid ++ bs p.denom ++ bs p.after = bs p.text := by
      unfold Part.text Part.num
      rw [if_neg (by rw [hp]; simp)]
      simp [bs_append]
    rw [← ht]
    have := Text_raw_plain (bs p.before) (bs p.whole) (bs p.frac) (bs p.mid) (bs p.denom) (bs p.after) (by rw [e]; omega) (by rw [e]; omega) (by rw [e]; omega) (by rw [e]; omega) (by rw [e]; omega) w
    unfold PV
    rw [hp]
    exact this

open Go.Proofs.YtnajekpckbfcdaaGreatDoorW.PrintWords Go.Proofs.YtnajekpckbfcdaaGreatDoor.PFnParseDecs
/-- A part, as the statement's data hold it. -/
def toPart (x : S26) : Part := ⟨x.f0.data.toList, x.f1.data.toList, x.f2, x.f3.data.toList, x.f4.data.toList, x.f5.data.toList, x.f6.data.toList⟩
theorem Text_S26 (x : S26) (h : (toPart x).Ok) (w : World) :
    Calls Tryz.prog 25 #[.agg #[.string x.f0, .string x.f1, .bool x.f2, .string x.f3, .string x.f4, .string x.f5, .string x.f6]] w fun e w' => e = .returned (.string (bs (toPart x).text)) ∧ Upd [] w w' := by
  have := Text_25 (toPart x) h w
  unfold PV toPart at this
  simp only [bs_data] at this
  exact this
def txs (xs : List S26) : List (List UInt8) := xs.map fun x => (toPart x).text
theorem joinC_len (c : UInt8) (m : Nat) : ∀ ls : List (List UInt8), (∀ l ∈ ls, l.length ≤ m) → (joinC c ls).length ≤ (m + 1) * ls.length
  | [], _ => by simp [joinC]
  | [x], h => by
    have := h x (by simp)
    show x.length ≤ _
    simp; omega
  | x :: y :: r, h => by
    have h1 := h x (by simp)
    have h2 := joinC_len c m (y :: r) (fun l hl => h l (List.mem_cons_of_mem _ hl))
    show (x ++ c :: joinC c (y :: r)).length ≤ _
    simp only [List.length_append, List.length_cons, Nat.mul_add, Nat.mul_one] at h2 ⊢
    omega
theorem joinC_take (c : UInt8) (ls : List (List UInt8)) (k : Nat) (h : k < ls.length) (h0 : 0 < k) : joinC c (ls.take (k + 1)) = joinC c (ls.take k) ++ c :: ls[k] := by
  rw [List.take_succ_eq_append_getElem h]
  exact joinC_snoc c _ _ (by intro e; have := congrArg List.length e; rw [List.length_take, List.length_nil] at this; omega)

set_option maxRecDepth 20000 in
set_option maxHeartbeats 2000000 in
theorem textJoined_10 (xs : List S26) (A : Option Addr) (c : Nat) (w : World) (hC : Kd.C k26 w A xs.length xs) (hc : xs.length ≤ c) (h8 : xs.length ≤ 1000) (hok : ∀ x ∈ xs, (toPart x).Ok) :
    Calls Tryz.prog 10 #[.slice A xs.length c] w fun e w' => e = .returned (.string (bs (joinC 44 (txs xs)))) ∧ Upd [] w w' := by
  have htl : (txs xs).length = xs.length := by simp [txs]
  have hlen : ∀ k, (joinC 44 ((txs xs).take k)).length ≤ 215000 := by
    intro k
    have h1 := joinC_len 44 214 ((txs xs).take k) (by
      intro l hl
      have := List.mem_of_mem_take hl
      unfold txs at this
      obtain ⟨x, hx, rfl⟩ := List.mem_map.1 this
      exact (hok x hx).text_len)
    have h2 : ((txs xs).take k).length ≤ 1000 := by rw [List.length_take]; omega
    omega
  obtain ⟨n, hn⟩ : ∃ n, xs.length = n := ⟨_, rfl⟩
  have HLEN := hide hlen
  have HTL := hide htl
  have HN := hide hn
  rw [hn] at hC hc h8 ⊢
  clear hlen htl hn
  go_enter Tryz.func10, Tryz.ntmps10
  go_wp2_with fail
  go_loopw [3, 8] (fun s i wr => ∃ k : Nat, k ≤ n ∧ i = .int .i64 k ∧ s = .string (bs (joinC 44 ((txs xs).take k))) ∧ Upd [] w wr) (fun _ i _ => n - (intOf i).toNat)
  case atStart => exact ⟨0, by omega, rfl, by simp [joinC, bs], Upd.refl _ _⟩
  case round =>
    obtain ⟨k, hk, rfl, rfl, hu⟩ := hrel
    rcases (by omega : k < n ∨ k = n) with hlt | rfl
    · have hCr := Kd.C_below hC hu.nil
      obtain ⟨ad, rfl, x0, x1, x2, x3, x4, x5, x6⟩ := at_T26 hCr (k : Int) (by omega) (by omega)
      have hkx : k < xs.length := by rw [HN.out]; exact hlt
      have hrd : rd_T26 xs (k : Int) = xs[k] := by unfold rd_T26; simp [hkx]
      have hmem : xs[k] ∈ xs := List.getElem_mem _
      have htx : (txs xs)[k]'(by rw [HTL.out]; exact hkx) = (toPart xs[k]).text := by simp [txs]
      have HT := hide (fun w => Text_S26 xs[k] (hok _ hmem) w)
      have htl2 := (hok _ hmem).text_len
      have hjl := HLEN.out k
      rw [hrd] at x0 x1 x2 x3 x4 x5 x6
      simp only [Int.toNat_natCast] at x0 x1 x2 x3 x4 x5 x6
      have hstep : 0 < k → joinC 44 ((txs xs).take (k + 1)) = joinC 44 ((txs xs).take k) ++ 44 :: (toPart xs[k]).text := fun h0 => by
        rw [joinC_take 44 _ k (by rw [HTL.out]; exact hkx) h0, htx]
      have hstep0 : k = 0 → joinC 44 ((txs xs).take (k + 1)) = (toPart xs[k]).text := by
        rintro rfl
        rw [List.take_succ_eq_append_getElem (by rw [HTL.out]; exact hkx), htx]; rfl
      have HS := hide hstep
      have HS0 := hide hstep0
      clear hCr hrd hmem htx hstep hstep0
      generalize (toPart xs[k]).text = tx at *
      obtain ⟨J1, hJ1⟩ : ∃ J1, joinC 44 ((txs xs).take (k + 1)) = J1 := ⟨_, rfl⟩
      obtain ⟨J0, hJ0e⟩ : ∃ J0, joinC 44 ((txs xs).take k) = J0 := ⟨_, rfl⟩
      have HJ1 := hide hJ1
      have HJ0 := hide hJ0e
      rw [hJ1, hJ0e] at HS
      rw [hJ1] at HS0
      rw [hJ0e] at hjl ⊢
      clear hJ1 hJ0e
      generalize xs[k] = x at *
      have z0 : (bs J0).size = J0.length := bs_size _
      have s1 : (k : Int) < (n : Int) := by omega
      have s2 : decide ((k : Int) < (n : Int)) = true := decide_eq_true s1
      have hkn : k < n := hlt
      go_upto_region 5 with (fail)
      have hT4 := Blk.new wr 26 #[.string x.f0, .string x.f1, .bool x.f2, .string x.f3, .string x.f4, .string x.f5, .string x.f6]
      have u4 := hu.alloc (.cells #[.string x.f0, .string x.f1, .bool x.f2, .string x.f3, .string x.f4, .string x.f5, .string x.f6] 26)
      clear x0 x1 x2 x3 x4 x5 x6 s1 s2 hu
      obtain ⟨Y, hY⟩ : ∃ Y, wr.heap.size = Y := ⟨_, rfl⟩
      rw [hY] at hT4 ⊢
      generalize wr.alloc (.cells #[.string x.f0, .string x.f1, .bool x.f2, .string x.f3, .string x.f4, .string x.f5, .string x.f6] 26) = w4 at *
      clear hY
      have c0 := hT4.at_ (i := 0) (v := .string x.f0) rfl
      have c1 := hT4.at_ (i := 1) (v := .string x.f1) rfl
      have c2 := hT4.at_ (i := 2) (v := .bool x.f2) rfl
      have c3 := hT4.at_ (i := 3) (v := .string x.f3) rfl
      have c4 := hT4.at_ (i := 4) (v := .string x.f4) rfl
      have c5 := hT4.at_ (i := 5) (v := .string x.f5) rfl
      have c6 := hT4.at_ (i := 6) (v := .string x.f6) rfl
      clear hT4
      have z1 : (bs tx).size = tx.length := bs_size _
      have zc : (bs [44]).size = 1 := rfl
      have m0 : (J0.length : Int) ≤ 8388608 := by omega
      have m1 : (tx.length : Int) ≤ 8388608 := by omega
      rcases Nat.eq_zero_or_pos k with hk0 | hk0
      · have h1 := HS0.out hk0
        subst hk0
        have hJ0 : Hid (bs J0 ++ bs tx = bs J1) := by
          have := HJ0.out
          show _ = _
          rw [bs_append, h1, ← this]; rfl
        have t1 : ¬ (0 : Int) < ((0 : Nat) : Int) := by omega
        clear h1
        go_wp2_with fail
        refine (HT.out _).mono ?_
        rintro e w5 ⟨rfl, hu5⟩
        have u5 := u4.on0 hu5
        clear HT c0 c1 c2 c3 c4 c5 c6 u4 hu5
        go_wp2
        go_roundw
        case rel => exact ⟨1, by omega, by go_num, by rw [HJ1.out]; exact congrArg _ hJ0.out, u5⟩
        case measure => simp [intOf]; omega
      · have h1 := HS.out hk0
        have hJ0 : Hid (bs J0 ++ bs [44] ++ bs tx = bs J1) := by
          show _ = _
          rw [h1, bs_append, bs_append]; simp
        have t1 : (0 : Int) < (k : Int) := by omega
        have m2 : ((bs J0 ++ bs [44]).size : Int) ≤ 8388608 := by rw [bs_append, bs_size]; simp; omega
        clear h1
        go_wp2_with fail
        refine (HT.out _).mono ?_
        rintro e w5 ⟨rfl, hu5⟩
        have u5 := u4.on0 hu5
        clear HT c0 c1 c2 c3 c4 c5 c6 u4 hu5
        go_wp2
        go_roundw
        case rel => exact ⟨k + 1, by omega, by go_num, by rw [HJ1.out]; exact congrArg _ hJ0.out, u5⟩
        case measure => simp [intOf]; omega
    · have s1 : ¬ (k : Int) < (k : Int) := by omega
      go_wp2
      go_ret
      refine ⟨?_, hu⟩
      rw [List.take_of_length_le (by have := HTL.out; have := HN.out; omega)]
      rfl

end Go.Proofs.YtnajekpckbfcdaaGreatDoor

namespace Go.Proofs.YtnajekpckbfcdaaGreatDoor
open Go.RowKit Go.Proofs.YtnajekpckbfcdaaGreatDoorW.PrintWords Go.Proofs.YtnajekpckbfcdaaGreatDoor.PFnParseDecs

/-- What zzFits9 asks of a part. -/
def Small (x : S26) : Prop := x.f0.size ≤ 2147483647 ∧ x.f1.size ≤ 2147483647 ∧ x.f3.size ≤ 2147483647 ∧ x.f4.size ≤ 2147483647 ∧ x.f5.size ≤ 2147483647 ∧ x.f6.size ≤ 2147483647
theorem fits9_f (x : S26) : ∃ r, laws_zzFits9.f x.f0 x.f1 x.f2 x.f3 x.f4 x.f5 x.f6 = some r ∧ (r = true → Small x) := by
  unfold laws_zzFits9.f
  by_cases c0 : (x.f0.size : Int) > 2147483647
  · rw [if_pos c0]; exact ⟨false, rfl, by simp⟩
  rw [if_neg c0]
  by_cases c1 : (x.f1.size : Int) > 2147483647
  · rw [if_pos c1]; exact ⟨false, rfl, by simp⟩
  rw [if_neg c1]
  by_cases c3 : (x.f3.size : Int) > 2147483647
  · rw [if_pos c3]; exact ⟨false, rfl, by simp⟩
  rw [if_neg c3]
  by_cases c4 : (x.f4.size : Int) > 2147483647
  · rw [if_pos c4]; exact ⟨false, rfl, by simp⟩
  rw [if_neg c4]
  by_cases c5 : (x.f5.size : Int) > 2147483647
  · rw [if_pos c5]; exact ⟨false, rfl, by simp⟩
  rw [if_neg c5]
  by_cases c6 : (x.f6.size : Int) > 2147483647
  · rw [if_pos c6]; exact ⟨false, rfl, by simp⟩
  rw [if_neg c6]
  exact ⟨true, rfl, fun _ => ⟨by omega, by omega, by omega, by omega, by omega, by omega⟩⟩
theorem rd_at (xs : List S26) (i : Nat) (h : i < xs.length) : rd_T26 xs (i : Int) = xs[i] := by unfold rd_T26; simp [h]
theorem fits10_l0 (xs : List S26) (hn : xs.length ≤ 2147483647) : ∀ (d i k : Nat), xs.length - i = d → i ≤ xs.length → d < k →
    ∃ r, laws_zzFits10.l0 k xs (xs.length : Int) (i : Int) = some r ∧ (r = true → ∀ x ∈ xs.drop i, Small x) := by
  intro d
  induction d with
  | zero =>
    intro i k h0 h1 hk
    obtain ⟨k, rfl⟩ : ∃ j, k = j + 1 := ⟨k - 1, by omega⟩
    simp only [laws_zzFits10.l0]
    rw [if_neg (by omega), List.drop_of_length_le (by omega)]
    exact ⟨true, rfl, by simp⟩
  | succ d ih =>
    intro i k h0 h1 hk
    obtain ⟨k, rfl⟩ : ∃ j, k = j + 1 := ⟨k - 1, by omega⟩
    have hi : i < xs.length := by omega
    simp only [laws_zzFits10.l0]
    rw [if_pos (by omega), if_pos (by omega), if_pos (by omega), rd_at xs i hi, wrap_big _ (by omega)]
    obtain ⟨r, hr, hp⟩ := fits9_f xs[i]
    rw [hr]
    simp only [Option.bind_some]
    cases r with
    | false => rw [if_neg (by simp)]; exact ⟨false, rfl, by simp⟩
    | true =>
      rw [if_pos rfl]
      obtain ⟨r2, hr2, hp2⟩ := ih (i + 1) k (by omega) (by omega) (by omega)
      refine ⟨r2, hr2, fun h => ?_⟩
      rw [List.drop_eq_getElem_cons hi]
      intro x hx
      rcases List.mem_cons.1 hx with rfl | hx
      · exact hp rfl
      · exact hp2 h x hx
theorem fits10_f (xs : List S26) : ∃ k r, laws_zzFits10.f k xs = some r ∧ (r = true → xs.length ≤ 2147483647 ∧ ∀ x ∈ xs, Small x) := by
  unfold laws_zzFits10.f
  by_cases c : (xs.length : Int) > 2147483647
  · exact ⟨0, false, by rw [if_pos c], by simp⟩
  · obtain ⟨r, hr, hp⟩ := fits10_l0 xs (by omega) xs.length 0 (xs.length + 1) (by omega) (by omega) (by omega)
    rw [show ((0 : Nat) : Int) = 0 from rfl] at hr
    exact ⟨xs.length + 1, r, by rw [if_neg c]; exact hr, fun h => ⟨by omega, by simpa using hp h⟩⟩

theorem part_of (x : S26) (h : Small x) (k : Nat) (hk : x.f1.size + 3000 < k) : ∃ r, spec_IsTextPart.f k x.f0 x.f1 x.f2 x.f3 x.f4 x.f5 x.f6 = some r ∧ (r = true → (toPart x).Ok) := by
  obtain ⟨h0, h1, h3, h4, h5, h6⟩ := h
  have e : ∀ b : ByteArray, b.data.toList.length = b.size := fun b => by cases b; simp [ByteArray.size]
  have := isPart_f x.f0.data.toList x.f1.data.toList x.f2 x.f3.data.toList x.f4.data.toList x.f5.data.toList x.f6.data.toList (by rw [e]; exact h0) (by rw [e]; exact h1) (by rw [e]; exact h3) (by rw [e]; exact h4) (by rw [e]; exact h6) k (by rw [e]; exact hk)
  simp only [bs_data] at this
  exact this
theorem parts_l0 (xs : List S26) (hn : xs.length ≤ 2147483647) (hs : ∀ x ∈ xs, Small x) (K : Nat) (hK : 2147483647 + 3000 < K) : ∀ (d i k : Nat), xs.length - i = d → i ≤ xs.length → d + K < k →
    ∃ r, laws_textParts.l0 k xs xs (xs.length : Int) (i : Int) = some r ∧ (r = true → (∀ x ∈ xs.drop i, (toPart x).Ok) ∧ 1 ≤ xs.length ∧ xs.length ≤ 8) := by
  intro d
  induction d with
  | zero =>
    intro i k h0 h1 hk
    obtain ⟨k, rfl⟩ : ∃ j, k = j + 1 := ⟨k - 1, by omega⟩
    simp only [laws_textParts.l0]
    rw [if_neg (by omega), List.drop_of_length_le (by omega)]
    by_cases c : (xs.length : Int) ≥ 1
    · rw [if_pos c]
      exact ⟨_, rfl, fun h => ⟨by simp, by omega, by have := of_decide_eq_true h; omega⟩⟩
    · rw [if_neg c]; exact ⟨false, rfl, by simp⟩
  | succ d ih =>
    intro i k h0 h1 hk
    obtain ⟨k, rfl⟩ : ∃ j, k = j + 1 := ⟨k - 1, by omega⟩
    have hi : i < xs.length := by omega
    simp only [laws_textParts.l0]
    have hsm := hs xs[i] (List.getElem_mem _)
    rw [if_pos (by omega), if_pos (by omega), if_pos (by omega), rd_at xs i hi, wrap_big _ (by omega)]
    obtain ⟨r, hr, hp⟩ := part_of xs[i] hsm k (by have := hsm.2.1; omega)
    rw [hr]
    simp only [Option.bind_some]
    cases r with
    | false => rw [if_neg (by simp)]; exact ⟨false, rfl, by simp⟩
    | true =>
      rw [if_pos rfl]
      obtain ⟨r2, hr2, hp2⟩ := ih (i + 1) k (by omega) (by omega) (by omega)
      refine ⟨r2, hr2, fun h => ?_⟩
      obtain ⟨p1, p2⟩ := hp2 h
      refine ⟨?_, p2⟩
      rw [List.drop_eq_getElem_cons hi]
      intro x hx
      rcases List.mem_cons.1 hx with rfl | hx
      · exact hp rfl
      · exact p1 x hx
theorem parts_f (xs : List S26) (hn : xs.length ≤ 2147483647) (hs : ∀ x ∈ xs, Small x) : ∃ k r, laws_textParts.f k xs = some r ∧ (r = true → (∀ x ∈ xs, (toPart x).Ok) ∧ 1 ≤ xs.length ∧ xs.length ≤ 8) := by
  obtain ⟨r, hr, hp⟩ := parts_l0 xs hn hs 2147490000 (by omega) xs.length 0 (xs.length + 2147490001) (by omega) (by omega) (by omega)
  rw [show ((0 : Nat) : Int) = 0 from rfl] at hr
  exact ⟨_, r, hr, fun h => by simpa using hp h⟩

end Go.Proofs.YtnajekpckbfcdaaGreatDoor

namespace Go.Proofs.YtnajekpckbfcdaaGreatDoor
open Go.RowKit Go.Proofs.YtnajekpckbfcdaaGreatDoorW.PrintWords Go.Proofs.YtnajekpckbfcdaaGreatDoor.PFnParseDecs

theorem ne_of_len {α : Type} {l : List α} (h : 0 < l.length) : l ≠ [] := by rintro rfl; simp at h
end Go.Proofs.YtnajekpckbfcdaaGreatDoor

namespace Go.Proofs.YtnajekpckbfcdaaGreatDoor
open Go.RowKit Go.Proofs.YtnajekpckbfcdaaGreatDoorW.PrintWords Go.Proofs.YtnajekpckbfcdaaGreatDoor.PFnParseDecs

theorem tj_len (xs : List S26) (hok : ∀ x ∈ xs, (toPart x).Ok) (h8 : xs.length ≤ 8) : (joinC 44 (txs xs)).length ≤ 2000 := by
  have h1 := joinC_len 44 214 (txs xs) (by
    intro l hl
    unfold txs at hl
    obtain ⟨x, hx, rfl⟩ := List.mem_map.1 hl
    exact (hok x hx).text_len)
  have h2 : (txs xs).length = xs.length := by simp [txs]
  rw [h2] at h1
  omega
theorem str_ne {s : ByteArray} (h : 0 < s.size) : ¬ s.toList = [] ∧ (s.toList.isEmpty) = false ∧ (s.toList == []) = false := by
  have hne : s.toList ≠ [] := by
    intro e
    have := congrArg List.length e
    rw [ByteArray.toList_eq] at this
    simp at this
    rw [this] at h
    exact absurd h (by decide)
  refine ⟨hne, ?_, ?_⟩
  · cases hh : s.toList with
    | nil => exact absurd hh hne
    | cons a r => rfl
  · rw [beq_eq_false_iff_ne]; exact hne
end Go.Proofs.YtnajekpckbfcdaaGreatDoor
