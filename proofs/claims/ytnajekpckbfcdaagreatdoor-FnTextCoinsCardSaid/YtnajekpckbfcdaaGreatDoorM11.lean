/-
  Decimals: limits, questions, backDec.
-/
import Derived.Test.YtnajekpckbfcdaaGreatDoorM07
import Derived.Test.YtnajekpckbfcdaaGreatDoorM08
import Derived.Deep.RegionHeld3
set_option linter.unusedVariables false
set_option linter.unusedSimpArgs false
namespace Go.Proofs.YtnajekpckbfcdaaGreatDoor
open Go.RowKit

theorem low64_any (w : World) (A : Option Addr) (L C a : Nat) (hS : NatS w A L C (wo a)) (ha : a < 18446744073709551616) :
    Calls Tryz.prog 132 #[.slice A L C] w fun e w' => e = .returned (.int .u64 a) ∧ w = w' := by
  rcases Nat.eq_zero_or_pos a with rfl | hp
  · have hL : L = 0 := by rw [← hS.1]; simp [wo_zero]
    subst hL
    go_enter Tryz.func132, Tryz.ntmps132
    go_wp2
    go_ret
    exact ⟨rfl, rfl⟩
  · have ew : wo a = [a] := wo_one (by omega) ha
    have hL : L = 1 := by rw [← hS.1, ew]; rfl
    subst hL
    obtain ⟨b, cs, rfl, hb, hcs, hw⟩ := hS.row (by have := hS.2.2.1; omega)
    have c0 := hS.cells 0 (by omega)
    rw [ew] at c0
    simp only [List.getD_cons_zero] at c0
    have h1 : IntKind.u64.wrap (a : Int) = (a : Int) := wrapN a ha
    clear ew
    go_enter Tryz.func132, Tryz.ntmps132
    go_wp2
    go_ret
    exact ⟨rfl, rfl⟩

theorem IsInt64_nat (w : World) (p : Nat) (A : Option Addr) (a : Nat) (h : IntV w p A a) (ha : a < 9223372036854775808) :
    Calls Tryz.prog 98 #[.pointer (some ⟨p, 0, none⟩)] w fun e w' => e = .returned (.bool true) ∧ w = w' := by
  obtain ⟨L, C, hb, hS⟩ := h
  rw [Int.natAbs_natCast] at hS
  have hL : L ≤ 1 := by rw [← hS.1]; exact wo_len_le (by rw [Nat.pow_one]; omega)
  have t1 : (L : Int) ≤ 1 := by omega
  have HC := hide (low64_any w A L C a hS (by omega))
  have c1 := hb.snd
  have h1 : IntKind.i64.wrap (a : Int) = (a : Int) := IntWalk.i64_in _ (by omega)
  have h2 : (0 : Int) ≤ (a : Int) := by omega
  clear hb
  go_enter Tryz.func98, Tryz.ntmps98
  go_wp2_with fail
  refine HC.out.mono ?_
  rintro e w1 ⟨rfl, rfl⟩
  go_wp2
  go_ret
  exact ⟨rfl, rfl⟩

theorem Int64_nat (w : World) (p : Nat) (A : Option Addr) (a : Nat) (h : IntV w p A a) (ha : a < 9223372036854775808) :
    Calls Tryz.prog 99 #[.pointer (some ⟨p, 0, none⟩)] w fun e w' => e = .returned (.int .i64 a) ∧ w = w' := by
  obtain ⟨L, C, hb, hS⟩ := h
  rw [Int.natAbs_natCast] at hS
  have HC := hide (low64_any w A L C a hS (by omega))
  have c0 := hb.fst
  rw [decide_eq_false (by omega)] at c0
  have c1 := hb.snd
  have h1 : IntKind.i64.wrap (a : Int) = (a : Int) := IntWalk.i64_in _ (by omega)
  clear hb
  go_enter Tryz.func99, Tryz.ntmps99
  go_wp2_with fail
  refine HC.out.mono ?_
  rintro e w1 ⟨rfl, rfl⟩
  go_wp2
  go_ret
  exact ⟨rfl, rfl⟩

section
variable {w w' w0 : World} {A : Option Addr} {p q : Nat} {m : Int} {t : TypeId} {cs : Array Value}
theorem IntV.row_ne (h : IntV w p A m) (hb : Blk w q t cs) (ht : t ≠ 161) : q ∉ bof A := by
  obtain ⟨L, C, h1, h2⟩ := h
  exact h2.not_mem hb ht
theorem IntV.keep {ct : Array Value} (h : IntV w p A m) (hb : Blk w q 133 ct) (hu : Upd (q :: bof none) w w') (hne : p ≠ q) : IntV w' p A m :=
  h.upd hu (by simp [bof, hne]) (fun b hb' => by
    simp only [bof, List.mem_cons, List.not_mem_nil, or_false]
    rintro rfl
    exact h.row_ne hb (by decide) hb')
theorem IntV.grow (h : IntV w p A m) (hu : Upd [] w w') : IntV w' p A m := h.upd hu (by simp) (by simp)
theorem IntV.alloc (h : IntV w p A m) (o : Obj) : IntV (w.alloc o) p A m := h.grow ((Upd.refl [] w).alloc o)
theorem Blk.keep (h : Blk w p t cs) (hu : Upd (q :: bof none) w w') (hne : p ≠ q) : Blk w' p t cs := h.upd hu (by simp [bof, hne])
theorem Blk.grow (h : Blk w p t cs) (hu : Upd [] w w') : Blk w' p t cs := h.upd hu (by simp)
theorem Upd.on (h : Upd [] w0 w) (hu : Upd (q :: bof none) w w') (hq : w0.heap.size ≤ q) : Upd [] w0 w' := h.trans hu (fun k hk hlt => by
  simp only [bof, List.mem_cons, List.not_mem_nil, or_false] at hk
  omega)
theorem Upd.on0 (h : Upd [] w0 w) (hu : Upd [] w w') : Upd [] w0 w' := h.trans hu (by simp)
theorem Nums.grow (h : Nums w) (hu : Upd [] w w') : Nums w' := h.upd hu (by simp)
end
theorem sm_of {m : Int} {k : Nat} (h : m.natAbs ≤ k) (hk : k < 18446744073709551616 ^ 100) : Sm m := Nat.lt_of_le_of_lt h hk

set_option maxRecDepth 20000 in
theorem precisionReuse_any (w : World) (N : Nat) (hNv : N = 10 ^ 18) (hN : Nums w) : Calls Tryz.prog 166 #[] w (NewRes w N) := by
  have HNV := hide hNv
  clear hNv
  go_enter Tryz.func166, Tryz.ntmps166
  go_wp2_with fail
  refine (NewInt_nat _ 10 (by omega)).mono ?_
  rintro e w2 ⟨p2, A2, rfl, hI2, hu2, hp2, hA2⟩
  have hz1 := Blk.new w 133 #[.bool false, .slice none 0 0]
  have hz2 := hz1.grow hu2
  have u2 := ((Upd.refl [] w).alloc (.cells #[.bool false, .slice none 0 0] 133)).on0 hu2
  rw [World.size_alloc] at hp2 hA2
  go_wp2_with fail
  refine (NewInt_nat _ 18 (by omega)).mono ?_
  rintro e w3 ⟨p3, A3, rfl, hI3, hu3, hp3, hA3⟩
  have hz3 := hz2.grow hu3
  have u3 := u2.on0 hu3
  have hI2' := hI2.grow hu3
  go_wp2_with fail
  refine (Exp_nat w3 w.heap.size p2 p3 A2 A3 10 18 N (by omega) hz3 hI2' hI3 (fun Lx Cx Ly Cy hX hY => ?_)).mono ?_
  · have h1 : Lx = 1 := by rw [← hX.1, wo_one (by omega) (by omega)]; rfl
    have h2 : Ly = 1 := by rw [← hY.1, wo_one (by omega) (by omega)]; rfl
    subst h1
    subst h2
    exact expNN_18 w3 A2 A3 Cx Cy N HNV.out hX hY (hN.grow u3)
  rintro e w4 ⟨A4, rfl, hI4, hu4, hA4⟩
  go_wp2
  go_ret
  exact ⟨_, A4, rfl, hI4, u3.on hu4 (Nat.le_refl _), Nat.le_refl _, fun b hb => Nat.le_trans u3.size (by simpa [bof] using hA4 b hb)⟩

end Go.Proofs.YtnajekpckbfcdaaGreatDoor

namespace Go.Proofs.YtnajekpckbfcdaaGreatDoor
open Go.RowKit

theorem tenInt_any (w : World) : Calls Tryz.prog 197 #[] w (NewRes w (10 : Nat)) := by
  go_enter Tryz.func197, Tryz.ntmps197
  go_wp2_with fail
  refine (NewInt_nat _ 10 (by omega)).mono ?_
  rintro e w2 ⟨p2, A2, rfl, hI2, hu2, hp2, hA2⟩
  go_wp2
  go_ret
  exact ⟨p2, A2, rfl, hI2, hu2, hp2, hA2⟩

set_option maxRecDepth 100000 in
theorem expNN_nought (w : World) (X Y : Option Addr) (Cx Ly Cy n : Nat) (hX : NatS w X 1 Cx (wo n)) (hY : NatS w Y Ly Cy (wo 0)) :
    Calls Tryz.prog 252 #[.slice none 0 0, .pointer none, .slice X 1 Cx, .slice Y Ly Cy, .slice none 0 0, .bool false] w (NatRes w none 1) := by
  have hL : Ly = 0 := by rw [← hY.1]; simp [wo_zero]
  subst hL
  have hax := alias_no w none X 0 0 1 Cx [] (wo n) (NatS.nil w) hX (by simp [bof])
  have HAX := hide hax
  clear hax
  go_enter Tryz.func252, Tryz.ntmps252
  go_wp2_with fail
  refine HAX.out.mono ?_
  rintro e w1 ⟨rfl, q, rfl⟩
  go_wp2_with fail
  refine (alias_no (w.drewN q) none Y 0 0 0 Cy [] (wo 0) (NatS.nil _) (hY.drewN q) (by simp [bof])).mono ?_
  rintro e w1 ⟨rfl, q2, rfl⟩
  go_wp2_with fail
  refine (setWord_any _ none 0 0 1 [] (NatS.nil _) (by omega)).mono ?_
  rintro e w2 ⟨A', L', C', rfl, hS2, hu2, hb2⟩
  go_wp2
  go_ret
  exact ⟨A', L', C', rfl, hS2, hu2.undrewN, fun b hb => by simpa using hb2 b hb⟩

set_option maxRecDepth 20000 in
theorem calcMult_18 (w : World) : Calls Tryz.prog 145 #[.int .i64 18] w (NewRes w (1 : Nat)) := by
  go_enter Tryz.func145, Tryz.ntmps145
  go_wp2_with fail
  refine (tenInt_any _).mono ?_
  rintro e w2 ⟨p2, A2, rfl, hI2, hu2, hp2, hA2⟩
  have hz1 := Blk.new w 133 #[.bool false, .slice none 0 0]
  have hz2 := hz1.grow hu2
  have u2 := ((Upd.refl [] w).alloc (.cells #[.bool false, .slice none 0 0] 133)).on0 hu2
  rw [World.size_alloc] at hp2 hA2
  go_wp2_with fail
  refine (NewInt_nat _ 0 (by omega)).mono ?_
  rintro e w3 ⟨p3, A3, rfl, hI3, hu3, hp3, hA3⟩
  have hz3 := hz2.grow hu3
  have u3 := u2.on0 hu3
  have hI2' := hI2.grow hu3
  go_wp2_with fail
  refine (Exp_nat w3 w.heap.size p2 p3 A2 A3 10 0 1 (by omega) hz3 hI2' hI3 (fun Lx Cx Ly Cy hX hY => ?_)).mono ?_
  · have h1 : Lx = 1 := by rw [← hX.1, wo_one (by omega) (by omega)]; rfl
    subst h1
    exact expNN_nought w3 A2 A3 Cx Ly Cy 10 hX hY
  rintro e w4 ⟨A4, rfl, hI4, hu4, hA4⟩
  go_wp2
  go_ret
  exact ⟨_, A4, rfl, hI4, u3.on hu4 (Nat.le_refl _), Nat.le_refl _, fun b hb => Nat.le_trans u3.size (by simpa [bof] using hA4 b hb)⟩

set_option maxRecDepth 20000 in
theorem calcMult_0 (w : World) (N : Nat) (hNv : N = 10 ^ 18) (hN : Nums w) : Calls Tryz.prog 145 #[.int .i64 0] w (NewRes w N) := by
  have HNV := hide hNv
  clear hNv
  go_enter Tryz.func145, Tryz.ntmps145
  go_wp2_with fail
  refine (tenInt_any _).mono ?_
  rintro e w2 ⟨p2, A2, rfl, hI2, hu2, hp2, hA2⟩
  have hz1 := Blk.new w 133 #[.bool false, .slice none 0 0]
  have hz2 := hz1.grow hu2
  have u2 := ((Upd.refl [] w).alloc (.cells #[.bool false, .slice none 0 0] 133)).on0 hu2
  rw [World.size_alloc] at hp2 hA2
  go_wp2_with fail
  refine (NewInt_nat _ 18 (by omega)).mono ?_
  rintro e w3 ⟨p3, A3, rfl, hI3, hu3, hp3, hA3⟩
  have hz3 := hz2.grow hu3
  have u3 := u2.on0 hu3
  have hI2' := hI2.grow hu3
  go_wp2_with fail
  refine (Exp_nat w3 w.heap.size p2 p3 A2 A3 10 18 N (by omega) hz3 hI2' hI3 (fun Lx Cx Ly Cy hX hY => ?_)).mono ?_
  · have h1 : Lx = 1 := by rw [← hX.1, wo_one (by omega) (by omega)]; rfl
    have h2 : Ly = 1 := by rw [← hY.1, wo_one (by omega) (by omega)]; rfl
    subst h1
    subst h2
    exact expNN_18 w3 A2 A3 Cx Cy N HNV.out hX hY (hN.grow u3)
  rintro e w4 ⟨A4, rfl, hI4, hu4, hA4⟩
  go_wp2
  go_ret
  exact ⟨_, A4, rfl, hI4, u3.on hu4 (Nat.le_refl _), Nat.le_refl _, fun b hb => Nat.le_trans u3.size (by simpa [bof] using hA4 b hb)⟩

theorem mult_18 (w : World) : Calls Tryz.prog 106 #[.int .i64 18] w (NewRes w (1 : Nat)) := by
  go_enter Tryz.func106, Tryz.ntmps106
  go_wp2_with fail
  refine (calcMult_18 _).mono ?_
  rintro e w2 ⟨p2, A2, rfl, hI2, hu2, hp2, hA2⟩
  go_wp2
  go_ret
  exact ⟨p2, A2, rfl, hI2, hu2, hp2, hA2⟩

theorem mult_0 (w : World) (N : Nat) (hNv : N = 10 ^ 18) (hN : Nums w) : Calls Tryz.prog 106 #[.int .i64 0] w (NewRes w N) := by
  have HNV := hide hNv
  clear hNv
  go_enter Tryz.func106, Tryz.ntmps106
  go_wp2_with fail
  refine (calcMult_0 _ N HNV.out hN).mono ?_
  rintro e w2 ⟨p2, A2, rfl, hI2, hu2, hp2, hA2⟩
  go_wp2
  go_ret
  exact ⟨p2, A2, rfl, hI2, hu2, hp2, hA2⟩

/-- A decimal by value. -/
abbrev DV (p : Nat) : Value := .agg #[.pointer (some ⟨p, 0, none⟩)]
/-- A new decimal. -/
def DecRes (w : World) (m : Int) (e : Ending) (w' : World) : Prop :=
  ∃ p A, e = .returned (DV p) ∧ IntV w' p A m ∧ Upd [] w w' ∧ w.heap.size ≤ p ∧ ∀ b ∈ bof A, w.heap.size ≤ b

set_option maxRecDepth 20000 in
theorem DecFromBig_18 (w : World) (px : Nat) (X : Option Addr) (a : Int) (hx : IntV w px X a) (ha : Sm a) :
    Calls Tryz.prog 75 #[.pointer (some ⟨px, 0, none⟩), .int .i64 18] w (DecRes w a) := by
  have hpx := hx.lt
  go_enter Tryz.func75, Tryz.ntmps75
  go_wp2_with fail
  refine (mult_18 _).mono ?_
  rintro e w2 ⟨p2, A2, rfl, hI2, hu2, hp2, hA2⟩
  have hr1 := (Blk.new w 85 #[.pointer none]).alloc (.cells #[.bool false, .slice none 0 0] 133)
  have hz1 := Blk.new (w.alloc (.cells #[.pointer none] 85)) 133 #[.bool false, .slice none 0 0]
  rw [World.size_alloc] at hz1
  have hr2 := hr1.grow hu2
  have hz2 := hz1.grow hu2
  have u2 := (((Upd.refl [] w).alloc (.cells #[.pointer none] 85)).alloc (.cells #[.bool false, .slice none 0 0] 133)).on0 hu2
  have hx2 := hx.grow u2
  rw [World.size_alloc, World.size_alloc] at hp2 hA2
  go_wp2_with fail
  refine (Mul_any w2 (w.heap.size + 1) px p2 false none X A2 0 0 [] a (1 : Nat) (by omega) (by omega) (by omega) hz2 (NatS.nil _) hx2 hI2 ha (sm_of (k := 1) (by simp) (by decide)) (.inr (by simp))).mono ?_
  rintro e w4 ⟨A4, rfl, hI4, hu4, hA4⟩
  have hr4 := hr2.keep hu4 (by omega)
  have u4 := u2.on hu4 (by omega)
  have cr := hr4.at_ (i := 0) (v := .pointer none) rfl
  have fr := hr4.frozen 0
  go_wp2
  refine bodyPost_ret (v := DV (w.heap.size + 1)) (by simp [results, Tryz.results75, cr, go_sem]) rfl ?_
  rw [show a * ((1 : Nat) : Int) = a from by simp] at hI4
  refine ⟨_, A4, rfl, hI4.upd (S := [w.heap.size]) ((Upd.refl _ _).setCell (by simp) _) (by simp) (fun b hb => ?_), u4.setCell (fun h => absurd h (Nat.lt_irrefl _)) _, by omega, fun b hb => Nat.le_trans u2.size (by simpa [bof] using hA4 b hb)⟩
  have := hI4.row_ne hr4 (by decide)
  simp only [List.mem_singleton]
  rintro rfl
  exact this hb

theorem IntV.set_far {w : World} {p g : Nat} {A : Option Addr} {m : Int} {t : TypeId} {cs : Array Value} (h : IntV w p A m) (hg : Blk w g t cs) (ht : t ≠ 161) (hne : p ≠ g) (i : Nat) (u : Value) : IntV (w.setCell ⟨g, i, none⟩ u) p A m :=
  h.upd (S := [g]) ((Upd.refl _ _).setCell (by simp) _) (by simpa using hne) (fun b hb => by
    simp only [List.mem_singleton]
    rintro rfl
    exact h.row_ne hg ht hb)

set_option maxRecDepth 20000 in
set_option maxHeartbeats 2000000 in
theorem upperLimit_any (w : World) (M N : Nat) (hMv : M = 2 ^ 256) (hNv : N = 10 ^ 18) (hN : Nums w) : Calls Tryz.prog 129 #[] w (DecRes w ((M * N - 1 : Nat) : Int)) := by
  have hsM : Sm (M : Int) := by subst hMv; unfold Sm; rw [Int.natAbs_natCast]; decide
  have hsN : Sm (N : Int) := by subst hNv; unfold Sm; rw [Int.natAbs_natCast]; decide
  have hN1 : (N : Int).natAbs < 18446744073709551616 := by subst hNv; rw [Int.natAbs_natCast]; decide
  have hs1 : Sm ((1 : Nat) : Int) := sm_of (k := 1) (by simp) (by decide)
  have hsMN : Sm ((M * N : Nat) : Int) := by subst hMv hNv; unfold Sm; rw [Int.natAbs_natCast]; decide
  have hsMN1 : Sm ((M * N - 1 : Nat) : Int) := by subst hMv hNv; unfold Sm; rw [Int.natAbs_natCast]; decide
  have hge : 1 ≤ M * N := by subst hMv hNv; decide
  have HMV := hide hMv
  have HNV := hide hNv
  have HSM := hide hsM
  have HSN := hide hsN
  have HN1 := hide hN1
  have HMN := hide hsMN
  have HMN1 := hide hsMN1
  have HGE := hide hge
  clear hMv hNv hsM hsN hN1 hsMN hsMN1 hge
  go_enter Tryz.func129, Tryz.ntmps129
  go_wp2_with fail
  refine (NewInt_nat _ 2 (by omega)).mono ?_
  rintro e w2 ⟨p2, A2, rfl, hI2, hu2, hp2, hA2⟩
  have hr1 := (Blk.new w 85 #[.pointer none]).alloc (.cells #[.bool false, .slice none 0 0] 133)
  have hz1 := Blk.new (w.alloc (.cells #[.pointer none] 85)) 133 #[.bool false, .slice none 0 0]
  rw [World.size_alloc] at hz1
  have hr2 := hr1.grow hu2
  have hz2 := hz1.grow hu2
  have u2 := (((Upd.refl [] w).alloc (.cells #[.pointer none] 85)).alloc (.cells #[.bool false, .slice none 0 0] 133)).on0 hu2
  rw [World.size_alloc, World.size_alloc] at hp2 hA2
  clear hr1 hz1 hu2 hA2
  go_wp2_with fail
  refine (NewInt_nat _ 256 (by omega)).mono ?_
  rintro e w3 ⟨p3, A3, rfl, hI3, hu3, hp3, hA3⟩
  have hr3 := hr2.grow hu3
  have hz3 := hz2.grow hu3
  have u3 := u2.on0 hu3
  have hI2' := hI2.grow hu3
  clear hu3 hr2 hz2 u2 hI2 hA3
  go_wp2_with fail
  refine (Exp_nat w3 (w.heap.size + 1) p2 p3 A2 A3 2 256 M (by omega) hz3 hI2' hI3 (fun Lx Cx Ly Cy hX hY => ?_)).mono ?_
  · have h1 : Lx = 1 := by rw [← hX.1, wo_one (by omega) (by omega)]; rfl
    have h2 : Ly = 1 := by rw [← hY.1, wo_one (by omega) (by omega)]; rfl
    subst h1
    subst h2
    exact expNN_256 w3 A2 A3 Cx Cy M HMV.out hX hY (hN.grow u3)
  rintro e w4 ⟨A4, rfl, hI4, hu4, hA4⟩
  have hr4 := hr3.keep hu4 (by omega)
  have u4 := u3.on hu4 (by omega)
  have hlt4 := hI4.lt
  clear hr3 u3 hI2' hI3 hu4 hz3 hA4
  go_wp2_with fail
  have hz6 := (Blk.new w4 133 #[.bool false, .slice none 0 0]).alloc (.cells #[.bool false, .slice none 0 0] 133)
  have hz7 := Blk.new (w4.alloc (.cells #[.bool false, .slice none 0 0] 133)) 133 #[.bool false, .slice none 0 0]
  rw [World.size_alloc] at hz7
  have u6 := (u4.alloc (.cells #[.bool false, .slice none 0 0] 133)).alloc (.cells #[.bool false, .slice none 0 0] 133)
  refine (precisionReuse_any _ N HNV.out (hN.grow u6)).mono ?_
  rintro e w7 ⟨p7, A7, rfl, hI7, hu7, hp7, hA7⟩
  rw [World.size_alloc, World.size_alloc] at hp7 hA7
  have hr7 := ((hr4.alloc (.cells #[.bool false, .slice none 0 0] 133)).alloc (.cells #[.bool false, .slice none 0 0] 133)).grow hu7
  have hI47 := ((hI4.alloc (.cells #[.bool false, .slice none 0 0] 133)).alloc (.cells #[.bool false, .slice none 0 0] 133)).grow hu7
  have hz67 := hz6.grow hu7
  have hz77 := hz7.grow hu7
  have u7 := u6.on0 hu7
  have hsz4 := u4.size
  clear hr4 hI4 hz6 hz7 u6 hu7 hA7
  go_wp2_with fail
  refine (Mul_any w7 (w4.heap.size + 1) (w.heap.size + 1) p7 false none A4 A7 0 0 [] (M : Int) (N : Int) (by omega) (by omega) (by omega) hz77 (NatS.nil _) hI47 hI7 HSM.out HSN.out (.inr HN1.out)).mono ?_
  rintro e w8 ⟨A8, rfl, hI8, hu8, hA8⟩
  have hr8 := hr7.keep hu8 (by omega)
  have hz68 := hz67.keep hu8 (by omega)
  have u8 := u7.on hu8 (by omega)
  clear hr7 hz67 u7 hI47 hI7 hz77 hu8 hA8
  go_wp2_with fail
  refine (NewInt_nat _ 1 (by omega)).mono ?_
  rintro e w9 ⟨p9, A9, rfl, hI9, hu9, hp9, hA9⟩
  have hlt8 := hI8.lt
  have hr9 := hr8.grow hu9
  have hz69 := hz68.grow hu9
  have hI89 := hI8.grow hu9
  have u9 := u8.on0 hu9
  rw [← Int.natCast_mul] at hI89
  have hlt6 := hz68.lt
  clear hr8 hz68 hI8 u8 hu9 hA9
  go_wp2_with fail
  refine (Sub_nat w9 w4.heap.size (w4.heap.size + 1) p9 false none A8 A9 0 0 [] (M * N) 1 HGE.out (by omega) (by omega) hz69 (NatS.nil _) hI89 hI9 HMN.out hs1).mono ?_
  rintro e w10 ⟨A10, rfl, hI10, hu10, hA10⟩
  have hr10 := hr9.keep hu10 (by omega)
  have u10 := u9.on hu10 (by omega)
  clear hr9 hz69 hI89 hI9 u9 hu10 hA10
  go_wp2_with fail
  refine (DecFromBig_18 w10 w4.heap.size A10 _ hI10 HMN1.out).mono ?_
  rintro e w11 ⟨p11, A11, rfl, hI11, hu11, hp11, hA11⟩
  have hr11 := hr10.grow hu11
  have u11 := u10.on0 hu11
  have cr := hr11.at_ (i := 0) (v := .pointer none) rfl
  have fr := hr11.frozen 0
  have hsz := u10.size
  have hr10l := hr10.lt
  clear HMV HNV HSM HSN HN1 HMN HMN1 HGE hr10 u10 hu11 hI10
  go_wp2
  refine bodyPost_ret (v := DV p11) (by simp [results, Tryz.results129, cr, go_sem]) rfl ?_
  have hrlt := hr11.lt
  refine ⟨p11, A11, rfl, hI11.set_far hr11 (by decide) (by omega) _ _, u11.setCell (fun h => absurd h (Nat.lt_irrefl _)) _, by omega, fun b hb => Nat.le_trans hsz (hA11 b hb)⟩

/-- A decimal's cell, behind 'box'. -/
theorem DecNeg_any (w : World) (p : Nat) (A : Option Addr) (m : Int) (h : IntV w p A m) (hm : Sm m) : Calls Tryz.prog 116 #[DV p] w (DecRes w (-m)) := by
  have hpl := h.lt
  go_enter Tryz.func116, Tryz.ntmps116
  go_wp2_with fail
  have u3 : Upd [] w (((w.alloc (.cells #[.pointer (some ⟨p, 0, none⟩)] 85)).alloc (.cells #[.pointer none] 85)).alloc (.cells #[.bool false, .slice none 0 0] 133)) := (((Upd.refl [] w).alloc _).alloc _).alloc _
  have hr := (Blk.new (w.alloc (.cells #[.pointer (some ⟨p, 0, none⟩)] 85)) 85 #[.pointer none]).alloc (.cells #[.bool false, .slice none 0 0] 133)
  have hz := Blk.new ((w.alloc (.cells #[.pointer (some ⟨p, 0, none⟩)] 85)).alloc (.cells #[.pointer none] 85)) 133 #[.bool false, .slice none 0 0]
  rw [World.size_alloc] at hr
  rw [World.size_alloc, World.size_alloc] at hz
  refine (Neg_any _ (w.heap.size + 1 + 1) p false none A 0 0 [] m (by omega) hz (NatS.nil _) (h.grow u3) hm).mono ?_
  rintro e w4 ⟨A4, rfl, hI4, hu4, hA4⟩
  have hr4 := hr.keep hu4 (by omega)
  have u4 := u3.on hu4 (by omega)
  have cr := hr4.at_ (i := 0) (v := .pointer none) rfl
  have fr := hr4.frozen 0
  have hsz := u3.size
  clear hr u3 hu4 hz
  go_wp2
  refine bodyPost_ret (v := DV (w.heap.size + 1 + 1)) (by simp [results, Tryz.results116, cr, go_sem]) rfl ?_
  refine ⟨_, A4, rfl, hI4.set_far hr4 (by decide) (by omega) _ _, u4.setCell (fun h => absurd h (by simp)) _, by omega, fun b hb => Nat.le_trans hsz (by simpa [bof] using hA4 b hb)⟩

set_option maxRecDepth 20000 in
theorem lowerLimit_any (w : World) (M N : Nat) (hMv : M = 2 ^ 256) (hNv : N = 10 ^ 18) (hN : Nums w) : Calls Tryz.prog 130 #[] w (DecRes w (-((M * N - 1 : Nat) : Int))) := by
  have hsMN1 : Sm ((M * N - 1 : Nat) : Int) := by subst hMv hNv; unfold Sm; rw [Int.natAbs_natCast]; decide
  have HMV := hide hMv
  have HNV := hide hNv
  have HS := hide hsMN1
  clear hMv hNv hsMN1
  go_enter Tryz.func130, Tryz.ntmps130
  go_wp2_with fail
  have hr := Blk.new w 85 #[.pointer none]
  have u1 : Upd [] w (w.alloc (.cells #[.pointer none] 85)) := (Upd.refl [] w).alloc _
  refine (upperLimit_any _ M N HMV.out HNV.out (hN.grow u1)).mono ?_
  rintro e w2 ⟨p2, A2, rfl, hI2, hu2, hp2, hA2⟩
  have hr2 := hr.grow hu2
  have u2 := u1.on0 hu2
  clear hr u1 hu2
  go_wp2_with fail
  refine (DecNeg_any w2 p2 A2 _ hI2 HS.out).mono ?_
  rintro e w3 ⟨p3, A3, rfl, hI3, hu3, hp3, hA3⟩
  have hr3 := hr2.grow hu3
  have u3 := u2.on0 hu3
  have cr := hr3.at_ (i := 0) (v := .pointer none) rfl
  have fr := hr3.frozen 0
  have hl2 := hr2.lt
  have hsz := u2.size
  clear HMV HNV HS hr2 u2 hu3 hI2
  go_wp2
  refine bodyPost_ret (v := DV p3) (by simp [results, Tryz.results130, cr, go_sem]) rfl ?_
  exact ⟨_, A3, rfl, hI3.set_far hr3 (by decide) (by omega) _ _, u3.setCell (fun h => absurd h (Nat.lt_irrefl _)) _, by omega, fun b hb => Nat.le_trans hsz (hA3 b hb)⟩

end Go.Proofs.YtnajekpckbfcdaaGreatDoor

namespace Go.Proofs.YtnajekpckbfcdaaGreatDoor
open Go.RowKit

theorem Blk.one {w : World} {g : Nat} {t : TypeId} {a : Value} (h : Blk w g t #[a]) : w.cell? ⟨g, 0, none⟩ = some a := h.cell 0

theorem IsNil_any (w : World) (p : Nat) : Calls Tryz.prog 95 #[DV p] w fun e w' => e = .returned (.bool false) ∧ Upd [] w w' := by
  go_enter Tryz.func95, Tryz.ntmps95
  go_wp2
  go_ret
  exact ⟨rfl, (Upd.refl _ _).alloc _⟩

theorem IsPositive_any (w : World) (p : Nat) (A : Option Addr) (m : Int) (h : IntV w p A m) :
    Calls Tryz.prog 48 #[DV p] w fun e w' => e = .returned (.bool (m.sign == 1)) ∧ Upd [] w w' := by
  have u1 : Upd [] w (w.alloc (.cells #[.pointer (some ⟨p, 0, none⟩)] 85)) := (Upd.refl _ _).alloc _
  have HC := hide (Sign_any _ p A m (h.grow u1))
  clear h
  generalize m.sign = s at *
  go_enter Tryz.func48, Tryz.ntmps48
  go_wp2_with fail
  refine HC.out.mono ?_
  rintro e w2 ⟨rfl, rfl⟩
  clear HC
  go_wp2
  go_ret
  exact ⟨by first | rfl | simp, u1⟩

theorem IsNegative_any (w : World) (p : Nat) (A : Option Addr) (m : Int) (h : IntV w p A m) :
    Calls Tryz.prog 94 #[DV p] w fun e w' => e = .returned (.bool (m.sign == -1)) ∧ Upd [] w w' := by
  have u1 : Upd [] w (w.alloc (.cells #[.pointer (some ⟨p, 0, none⟩)] 85)) := (Upd.refl _ _).alloc _
  have HC := hide (Sign_any _ p A m (h.grow u1))
  clear h
  generalize m.sign = s at *
  go_enter Tryz.func94, Tryz.ntmps94
  go_wp2_with fail
  refine HC.out.mono ?_
  rintro e w2 ⟨rfl, rfl⟩
  clear HC
  go_wp2
  go_ret
  exact ⟨by first | rfl | simp, u1⟩

theorem GT_any (w : World) (p q : Nat) (A B : Option Addr) (a b : Int) (hne : p ≠ q) (ha : IntV w p A a) (hb : IntV w q B b) (hsa : Sm a) (hsb : Sm b) :
    Calls Tryz.prog 128 #[DV p, DV q] w fun e w' => e = .returned (.bool (decide (0 < icmp a b))) ∧ Upd [] w w' := by
  have u1 : Upd [] w ((w.alloc (.cells #[.pointer (some ⟨p, 0, none⟩)] 85)).alloc (.cells #[.pointer (some ⟨q, 0, none⟩)] 85)) := ((Upd.refl _ _).alloc _).alloc _
  have HC := hide (Cmp_any _ p q A B a b hne (ha.grow u1) (hb.grow u1) hsa hsb)
  clear ha hb
  generalize icmp a b = s at *
  go_enter Tryz.func128, Tryz.ntmps128
  go_wp2_with fail
  refine HC.out.mono ?_
  rintro e w2 ⟨rfl, n, rfl⟩
  clear HC
  go_wp2
  go_ret
  exact ⟨by first | rfl | simp, u1.drewN n⟩

theorem LT_any (w : World) (p q : Nat) (A B : Option Addr) (a b : Int) (hne : p ≠ q) (ha : IntV w p A a) (hb : IntV w q B b) (hsa : Sm a) (hsb : Sm b) :
    Calls Tryz.prog 77 #[DV p, DV q] w fun e w' => e = .returned (.bool (decide (icmp a b < 0))) ∧ Upd [] w w' := by
  have u1 : Upd [] w ((w.alloc (.cells #[.pointer (some ⟨p, 0, none⟩)] 85)).alloc (.cells #[.pointer (some ⟨q, 0, none⟩)] 85)) := ((Upd.refl _ _).alloc _).alloc _
  have HC := hide (Cmp_any _ p q A B a b hne (ha.grow u1) (hb.grow u1) hsa hsb)
  clear ha hb
  generalize icmp a b = s at *
  go_enter Tryz.func77, Tryz.ntmps77
  go_wp2_with fail
  refine HC.out.mono ?_
  rintro e w2 ⟨rfl, n, rfl⟩
  clear HC
  go_wp2
  go_ret
  exact ⟨by first | rfl | simp, u1.drewN n⟩

theorem BigInt_any (w : World) (p : Nat) (A : Option Addr) (m : Int) (h : IntV w p A m) (hm : Sm m) : Calls Tryz.prog 97 #[DV p] w (NewRes w m) := by
  have hpl := h.lt
  go_enter Tryz.func97, Tryz.ntmps97
  go_wp2_with fail
  refine (IsNil_any _ p).mono ?_
  rintro e w2 ⟨rfl, hu2⟩
  have u2 := ((Upd.refl [] w).alloc (.cells #[.pointer (some ⟨p, 0, none⟩)] 85)).on0 hu2
  have hb := (Blk.new w 85 #[.pointer (some ⟨p, 0, none⟩)]).grow hu2
  have c0 := hb.one
  have hlt := hb.lt
  go_wp2_with fail
  have hz := Blk.new w2 133 #[.bool false, .slice none 0 0]
  have u3 := u2.alloc (.cells #[.bool false, .slice none 0 0] 133)
  obtain ⟨L, C, hbx, hS⟩ := h.grow u3
  refine (Set_any _ w2.heap.size p false none A 0 0 L C m.natAbs [] (decide (m < 0)) (by omega) hz (NatS.nil _) hbx hS (hm.len hS)).mono ?_
  rintro e w4 ⟨A4, L4, C4, rfl, hb4, hS4, hu4, hA4⟩
  have u4 := u3.on hu4 (by have := u2.size; omega)
  clear hb c0
  go_wp2
  go_ret
  exact ⟨_, A4, rfl, ⟨L4, C4, hb4, hS4⟩, u4, u2.size, fun b hb => Nat.le_trans u3.size (by simpa [bof] using hA4 b hb)⟩

set_option maxHeartbeats 1000000 in
theorem InRange_nat (w : World) (p : Nat) (A : Option Addr) (a : Nat) (h : IntV w p A a) (ha : a < 2 ^ 256) (hN : Nums w) :
    Calls Tryz.prog 93 #[DV p] w fun e w' => e = .returned (.bool true) ∧ Upd [] w w' := by
  obtain ⟨M, hMv⟩ : ∃ M : Nat, M = 2 ^ 256 := ⟨_, rfl⟩
  obtain ⟨N, hNv⟩ : ∃ N : Nat, N = 10 ^ 18 := ⟨_, rfl⟩
  have hsa : Sm (a : Int) := by unfold Sm; rw [Int.natAbs_natCast]; exact Nat.lt_of_lt_of_le ha (by decide)
  have hsU : Sm ((M * N - 1 : Nat) : Int) := by subst hMv hNv; unfold Sm; rw [Int.natAbs_natCast]; decide
  have hsL : Sm (-((M * N - 1 : Nat) : Int)) := by subst hMv hNv; unfold Sm; rw [Int.natAbs_neg, Int.natAbs_natCast]; decide
  have haU : a ≤ M * N - 1 := by
    have : 2 ^ 256 ≤ M * N - 1 := by subst hMv hNv; decide
    omega
  rw [← hMv] at ha
  obtain ⟨U, hU⟩ : ∃ U : Nat, M * N - 1 = U := ⟨_, rfl⟩
  have hup := fun w1 (hn : Nums w1) => upperLimit_any w1 M N hMv hNv hn
  have hlo := fun w1 (hn : Nums w1) => lowerLimit_any w1 M N hMv hNv hn
  rw [hU] at hsU hsL haU
  simp only [hU] at hup hlo
  have t1 : decide (0 < icmp (a : Int) (U : Int)) = false := by
    apply decide_eq_false
    unfold icmp
    split <;> (try split) <;> omega
  have t2 : decide (icmp (a : Int) (-(U : Int)) < 0) = false := by
    apply decide_eq_false
    unfold icmp
    split <;> (try split) <;> omega
  have HUP := hide hup
  have HLO := hide hlo
  have HSA := hide hsa
  have HSU := hide hsU
  have HSL := hide hsL
  have T1 := hide t1
  have T2 := hide t2
  clear hup hlo hsa hsU hsL t1 t2 hU hMv hNv ha haU
  have hpl := h.lt
  go_enter Tryz.func93, Tryz.ntmps93
  go_wp2_with fail
  have u1 : Upd [] w (w.alloc (.cells #[.pointer (some ⟨p, 0, none⟩)] 85)).drew := ((Upd.refl [] w).alloc _).drew
  have hb1 : Blk (w.alloc (.cells #[.pointer (some ⟨p, 0, none⟩)] 85)).drew w.heap.size 85 #[.pointer (some ⟨p, 0, none⟩)] := (Blk.new w 85 #[.pointer (some ⟨p, 0, none⟩)]).drew
  have c1 := hb1.one
  have hs1 := u1.size
  go_region_held3 (fun w' => w'.cell? ⟨w.heap.size, 0, none⟩ = some (.pointer (some ⟨p, 0, none⟩)))
    (first | exact c5 | exact c4 | exact c3 | exact c2 | exact c1)
    (first
      | (go_at_call 129; refine (HUP.out _ (hN.grow u1)).mono ?_; rintro e w2 ⟨p2, A2, rfl, hI2, hu2, hp2, hA2⟩; have u2 := u1.on0 hu2; have c2 := (hb1.grow hu2).one)
      | (go_at_call 128; refine (GT_any _ p p2 A A2 a U (by omega) (h.grow u2) hI2 HSA.out HSU.out).mono ?_; rintro e w3 ⟨rfl, hu3⟩; have u3 := u2.on0 hu3; have c3 := ((hb1.grow hu2).grow hu3).one; rw [T1.out])
      | (go_at_call 130; refine (HLO.out _ (hN.grow u3)).mono ?_; rintro e w4 ⟨p4, A4, rfl, hI4, hu4, hp4, hA4⟩; have u4 := u3.on0 hu4; have c4 := (((hb1.grow hu2).grow hu3).grow hu4).one)
      | (go_at_call 77; refine (LT_any _ p p4 A A4 a (-(U : Int)) (by have := u3.size; omega) (h.grow u4) hI4 HSA.out HSL.out).mono ?_; rintro e w5 ⟨rfl, hu5⟩; have u5 := u4.on0 hu5; have c5 := ((((hb1.grow hu2).grow hu3).grow hu4).grow hu5).one; rw [T2.out]))
  go_wp2
  go_ret
  exact ⟨rfl, u5⟩

theorem unit_any (w : World) : Calls Tryz.prog 73 #[] w (NewRes w (1000000000000000000 : Nat)) := by
  go_enter Tryz.func73, Tryz.ntmps73
  go_wp2_with fail
  refine (NewInt_nat _ 1000000000000000000 (by omega)).mono ?_
  rintro e w2 ⟨p2, A2, rfl, hI2, hu2, hp2, hA2⟩
  go_wp2
  go_ret
  exact ⟨p2, A2, rfl, hI2, hu2, hp2, hA2⟩

set_option maxHeartbeats 1000000 in
/-- backDec: the whole part and the rest. -/
theorem backDec_nat (w : World) (p : Nat) (A : Option Addr) (a : Nat) (h : IntV w p A a) (ha : a < 9223372036854775808 * 1000000000000000000) :
    Calls Tryz.prog 65 #[DV p] w fun e w' => e = .returned (.tuple #[.agg #[.int .i64 (a / 1000000000000000000 : Nat), .int .i64 (a % 1000000000000000000 : Nat)], .bool true]) ∧ Upd [] w w' := by
  have hsa : Sm (a : Int) := sm_of (k := 9223372036854775808 * 1000000000000000000) (by rw [Int.natAbs_natCast]; omega) (by decide)
  have hq1 : a / 1000000000000000000 < 9223372036854775808 := by omega
  have hr1 : a % 1000000000000000000 < 9223372036854775808 := by omega
  have hqr := fun w' pz px py pr X Y => QuoRem_nat w' pz px py pr X Y a
  obtain ⟨q, hq⟩ : ∃ q, a / 1000000000000000000 = q := ⟨_, rfl⟩
  obtain ⟨r, hr⟩ : ∃ r, a % 1000000000000000000 = r := ⟨_, rfl⟩
  simp only [hq, hr] at hqr
  rw [hq] at hq1
  rw [hr] at hr1
  rw [hq, hr]
  have HQR := hide hqr
  have HSA := hide hsa
  clear hqr hsa hq hr ha
  have hpl := h.lt
  go_enter Tryz.func65, Tryz.ntmps65
  go_wp2_with fail
  refine (IsNil_any _ p).mono ?_
  rintro e w2 ⟨rfl, hu2⟩
  have u2 := (((Upd.refl [] w).alloc (.cells #[.pointer (some ⟨p, 0, none⟩)] 85)).alloc (.cells #[.int .i64 0, .int .i64 0] 42)).on0 hu2
  have hb := ((Blk.new w 85 #[.pointer (some ⟨p, 0, none⟩)]).alloc (.cells #[.int .i64 0, .int .i64 0] 42)).grow hu2
  have hR := (Blk.new (w.alloc (.cells #[.pointer (some ⟨p, 0, none⟩)] 85)) 42 #[.int .i64 0, .int .i64 0]).grow hu2
  rw [World.size_alloc] at hR
  have c0 : (w2.alloc (.cells #[.bool false, .slice none 0 0] 133)).cell? ⟨w.heap.size, 0, none⟩ = some (.pointer (some ⟨p, 0, none⟩)) := (hb.alloc _).one
  have hRl := hR.lt
  go_wp2_with fail
  have hz := Blk.new w2 133 #[.bool false, .slice none 0 0]
  have u3 := u2.alloc (.cells #[.bool false, .slice none 0 0] 133)
  refine (BigInt_any _ p A a (h.grow u3) HSA.out).mono ?_
  rintro e w4 ⟨p4, A4, rfl, hI4, hu4, hp4, hA4⟩
  rw [World.size_alloc] at hp4
  have u4 := u3.on0 hu4
  have hz4 := hz.grow hu4
  have hR4 := (hR.alloc (.cells #[.bool false, .slice none 0 0] 133)).grow hu4
  have hl4 := hI4.lt
  clear u2 u3 hb c0 hR hz hA4 hu4 hu2
  go_wp2_with fail
  refine (unit_any _).mono ?_
  rintro e w5 ⟨p5, A5, rfl, hI5, hu5, hp5, hA5⟩
  have u5 := u4.on0 hu5
  have hz5 := hz4.grow hu5
  have hR5 := hR4.grow hu5
  have hI45 := hI4.grow hu5
  have hl5 := hI5.lt
  clear u4 hz4 hR4 hI4 hu5 hA5
  go_wp2_with fail
  have hr6 := Blk.new w5 133 #[.bool false, .slice none 0 0]
  have hz6 := hz5.alloc (.cells #[.bool false, .slice none 0 0] 133)
  have hR6 := hR5.alloc (.cells #[.bool false, .slice none 0 0] 133)
  have u6 := u5.alloc (.cells #[.bool false, .slice none 0 0] 133)
  have hI46 := hI45.alloc (.cells #[.bool false, .slice none 0 0] 133)
  have hI56 := hI5.alloc (.cells #[.bool false, .slice none 0 0] 133)
  clear u5 hz5 hR5 hI45 hI5
  refine (HQR.out _ w2.heap.size p4 p5 w5.heap.size A4 A5 (by omega) (by omega) (by omega) (by omega) (by omega) hz6 hr6 hI46 hI56 HSA.out).mono ?_
  rintro e w7 ⟨A7, B7, rfl, hQ7, hR7, hu7, hA7, hB7⟩
  have u7 : Upd [] w w7 := u6.trans hu7 (fun k hk hlt => by simp only [List.mem_cons, List.not_mem_nil, or_false] at hk; omega)
  have hRR := hR6.upd hu7 (by simp only [List.mem_cons, List.not_mem_nil, or_false]; omega)
  have HQ := hide hQ7
  have HR := hide hR7
  clear HQR hz6 hr6 hI46 hI56 u6 hu7 hR6
  go_wp2_with fail
  refine (IsInt64_nat _ _ A7 q HQ.out hq1).mono ?_
  rintro e w8 ⟨rfl, rfl⟩
  go_wp2_with fail
  refine (Int64_nat _ _ A7 q HQ.out hq1).mono ?_
  rintro e w8 ⟨rfl, rfl⟩
  go_wp2_with fail
  refine (Int64_nat _ _ B7 r HR.out hr1).mono ?_
  rintro e w8 ⟨rfl, rfl⟩
  have d0 := hRR.fst
  have d1 := hRR.snd
  have f0 := hRR.frozen 0
  have f1 := hRR.frozen 1
  go_wp2
  refine bodyPost_ret (v := .tuple #[.agg #[.int .i64 q, .int .i64 r], .bool true]) (by simp [results, Tryz.results65, d0, d1, go_sem]) rfl ?_
  exact ⟨rfl, (u7.setCell (by simp) _).setCell (by simp) _⟩

/-- A decimal coin by value. -/
abbrev CV (d : ByteArray) (p : Nat) : Value := .agg #[.string d, .pointer (some ⟨p, 0, none⟩)]

set_option maxHeartbeats 1000000 in
theorem backOne_nat (w : World) (d : ByteArray) (p : Nat) (A : Option Addr) (a : Nat) (h : IntV w p A a) (ha : a < 9223372036854775808 * 1000000000000000000) :
    Calls Tryz.prog 41 #[CV d p] w fun e w' => e = .returned (.tuple #[.agg #[.string d, .int .i64 (a / 1000000000000000000 : Nat), .int .i64 (a % 1000000000000000000 : Nat)], .bool true]) ∧ Upd [] w w' := by
  have u1 : Upd [] w ((w.alloc (.cells #[.string d, .pointer (some ⟨p, 0, none⟩)] 87)).alloc (.cells #[.string ⟨#[]⟩, .int .i64 0, .int .i64 0] 44)) := ((Upd.refl [] w).alloc _).alloc _
  have hbd := backDec_nat _ p A a (h.grow u1) ha
  obtain ⟨q, hq⟩ : ∃ q, a / 1000000000000000000 = q := ⟨_, rfl⟩
  obtain ⟨r, hr⟩ : ∃ r, a % 1000000000000000000 = r := ⟨_, rfl⟩
  rw [hq, hr] at hbd
  rw [hq, hr]
  have HB := hide hbd
  clear hbd hq hr ha
  go_enter Tryz.func41, Tryz.ntmps41
  go_wp2_with fail
  refine HB.out.mono ?_
  rintro e w2 ⟨rfl, hu2⟩
  have u2 := u1.on0 hu2
  have hb := ((Blk.new w 87 #[.string d, .pointer (some ⟨p, 0, none⟩)]).alloc (.cells #[.string ⟨#[]⟩, .int .i64 0, .int .i64 0] 44)).grow hu2
  have hR := (Blk.new (w.alloc (.cells #[.string d, .pointer (some ⟨p, 0, none⟩)] 87)) 44 #[.string ⟨#[]⟩, .int .i64 0, .int .i64 0]).grow hu2
  rw [World.size_alloc] at hR
  clear u1 hu2 HB
  have hl := hR.lt
  have hb3 := hb.alloc (.cells #[.int .i64 q, .int .i64 r] 42)
  have hR3 := hR.alloc (.cells #[.int .i64 q, .int .i64 r] 42)
  have hN3 := Blk.new w2 42 #[.int .i64 q, .int .i64 r]
  have u3 := u2.alloc (.cells #[.int .i64 q, .int .i64 r] 42)
  go_upto_region 2 with (fail)
  generalize w2.alloc (.cells #[.int .i64 q, .int .i64 r] 42) = w3 at hb3 hR3 hN3 u3 ⊢
  clear hb hR
  have c0 := hb3.fst
  have n0 := hN3.fst
  have n1 := hN3.snd
  have r0 := hR3.at_ (i := 0) (v := .string ⟨#[]⟩) rfl
  have r1 := hR3.at_ (i := 1) (v := .int .i64 0) rfl
  have r2 := hR3.at_ (i := 2) (v := .int .i64 0) rfl
  have f0 := hR3.frozen 0
  have f1 := hR3.frozen 1
  have f2 := hR3.frozen 2
  go_wp2
  refine bodyPost_ret (v := .tuple #[.agg #[.string d, .int .i64 q, .int .i64 r], .bool true]) (by simp [results, Tryz.results41, r0, r1, r2, go_sem]) rfl ?_
  exact ⟨rfl, ((u3.setCell (by simp) _).setCell (by simp) _).setCell (by simp) _⟩

end Go.Proofs.YtnajekpckbfcdaaGreatDoor
