/-
  The registry; Int and Dec at small methods, Sub.
-/
import Derived.Test.YtnajekpckbfcdaaGreatDoorM16
set_option linter.unusedVariables false
set_option linter.unusedSimpArgs false
namespace Go.Proofs.YtnajekpckbfcdaaGreatDoor
open Go.RowKit

theorem GetBaseDenom_108 (p : Nat) (mv : Value) (w : World) (h : Blk w p 129 #[mv, .string ⟨#[]⟩]) :
    Calls Tryz.prog 108 #[.pointer (some ⟨p, 0, none⟩)] w fun e w' => ∃ v s, e = .returned (.tuple #[.string ⟨#[]⟩, v]) ∧ ErrV w' v s ∧ Upd [] w w' := by
  have c1 := h.snd
  clear h
  go_enter Tryz.func108, Tryz.ntmps108
  go_wp2_with fail
  refine (errNew_61 _ _).mono ?_
  rintro e w2 ⟨v, rfl, hev, hu⟩
  go_wp2
  go_ret2
  exact ⟨v, _, rfl, hev, hu⟩
set_option maxRecDepth 20000 in
theorem Normalize_78 (p : Nat) (mv : Value) (d : ByteArray) (q : Nat) (w : World) (h : Blk w p 129 #[mv, .string ⟨#[]⟩]) :
    Calls Tryz.prog 78 #[.pointer (some ⟨p, 0, none⟩), CV d q] w fun e w' => e = .returned (CV d q) ∧ Upd [] w w' := by
  go_enter Tryz.func78, Tryz.ntmps78
  go_wp2_with fail
  have u1 := ((Upd.refl [] w).alloc (.cells #[.string d, .pointer (some ⟨q, 0, none⟩)] 87)).alloc (.cells #[.string ⟨#[]⟩, .pointer none] 87)
  have hb := (Blk.new w 87 #[.string d, .pointer (some ⟨q, 0, none⟩)]).alloc (.cells #[.string ⟨#[]⟩, .pointer none] 87)
  have hR := Blk.new (w.alloc (.cells #[.string d, .pointer (some ⟨q, 0, none⟩)] 87)) 87 #[.string ⟨#[]⟩, .pointer none]
  rw [World.size_alloc] at hR
  refine (GetBaseDenom_108 p mv _ (h.grow u1)).mono ?_
  rintro e w2 ⟨v, s, rfl, ⟨pe, rfl, _⟩, hu2⟩
  have u2 := u1.on0 hu2
  have hb2 := hb.grow hu2
  have hR2 := hR.grow hu2
  have nn := n_eof_nil ⟨pe, 0, none⟩
  clear hb hR u1 hu2
  have b0 := hb2.fst
  have b1 := hb2.snd
  have r0 := hR2.fst
  have r1 := hR2.snd
  have f0 := hR2.frozen 0
  have f1 := hR2.frozen 1
  have hl := hR2.lt
  go_wp2
  refine bodyPost_ret (v := CV d q) (by simp [results, Tryz.results78, r0, r1, hl, go_sem]) rfl ?_
  exact ⟨rfl, (u2.setCell (by simp) _).setCell (by simp) _⟩

end Go.Proofs.YtnajekpckbfcdaaGreatDoor

namespace Go.Proofs.YtnajekpckbfcdaaGreatDoor
open Go.RowKit

theorem IntIsNil_156 (w : World) (p : Nat) : Calls Tryz.prog 156 #[DV p] w fun e w' => e = .returned (.bool false) ∧ Upd [] w w' := by
  go_enter Tryz.func156, Tryz.ntmps156
  go_wp2
  go_ret
  exact ⟨rfl, (Upd.refl _ _).alloc _⟩
theorem BigIntMut_205 (w : World) (p : Nat) : Calls Tryz.prog 205 #[DV p] w fun e w' => e = .returned (.pointer (some ⟨p, 0, none⟩)) ∧ Upd [] w w' := by
  go_enter Tryz.func205, Tryz.ntmps205
  go_wp2_with fail
  refine (IntIsNil_156 _ p).mono ?_
  rintro e w2 ⟨rfl, hu2⟩
  have u2 := ((Upd.refl [] w).alloc (.cells #[.pointer (some ⟨p, 0, none⟩)] 101)).on0 hu2
  have hb := (Blk.new w 101 #[.pointer (some ⟨p, 0, none⟩)]).grow hu2
  have c0 := hb.one
  go_wp2
  go_ret
  exact ⟨rfl, u2⟩
theorem IntIsInt64_81 (w : World) (p : Nat) (A : Option Addr) (a : Nat) (h : IntV w p A a) (ha : a < 9223372036854775808) :
    Calls Tryz.prog 81 #[DV p] w fun e w' => e = .returned (.bool true) ∧ Upd [] w w' := by
  have u1 : Upd [] w (w.alloc (.cells #[.pointer (some ⟨p, 0, none⟩)] 101)) := (Upd.refl _ _).alloc _
  have HC := hide (IsInt64_nat _ p A a (h.grow u1) ha)
  clear h ha
  go_enter Tryz.func81, Tryz.ntmps81
  go_wp2_with fail
  refine HC.out.mono ?_
  rintro e w2 ⟨rfl, rfl⟩
  clear HC
  go_wp2
  go_ret
  exact ⟨by first | rfl | simp, u1⟩
theorem IntInt64_82 (w : World) (p : Nat) (A : Option Addr) (a : Nat) (h : IntV w p A a) (ha : a < 9223372036854775808) :
    Calls Tryz.prog 82 #[DV p] w fun e w' => e = .returned (.int .i64 a) ∧ Upd [] w w' := by
  have u1 : Upd [] w (w.alloc (.cells #[.pointer (some ⟨p, 0, none⟩)] 101)) := (Upd.refl _ _).alloc _
  have HC := hide (IsInt64_nat _ p A a (h.grow u1) ha)
  have HD := hide (Int64_nat _ p A a (h.grow u1) ha)
  clear h ha
  go_enter Tryz.func82, Tryz.ntmps82
  go_wp2_with fail
  refine HC.out.mono ?_
  rintro e w2 ⟨rfl, rfl⟩
  clear HC
  go_wp2_with fail
  refine HD.out.mono ?_
  rintro e w2 ⟨rfl, rfl⟩
  go_wp2
  go_ret
  exact ⟨by first | rfl | simp, u1⟩
theorem IntIsNeg_206 (w : World) (p : Nat) (A : Option Addr) (m : Nat) (h : IntV w p A m) :
    Calls Tryz.prog 206 #[DV p] w fun e w' => e = .returned (.bool false) ∧ Upd [] w w' := by
  have u1 : Upd [] w (w.alloc (.cells #[.pointer (some ⟨p, 0, none⟩)] 101)) := (Upd.refl _ _).alloc _
  have hc := Sign_any _ p A m (h.grow u1)
  have hs : ((m : Int).sign == -1) = false := by
    cases m with
    | zero => decide
    | succ m => rw [Int.sign_eq_one_of_pos (by omega)]; decide
  have HC := hide hc
  clear h hc
  generalize (m : Int).sign = s at *
  go_enter Tryz.func206, Tryz.ntmps206
  go_wp2_with fail
  refine HC.out.mono ?_
  rintro e w2 ⟨rfl, rfl⟩
  clear HC
  go_wp2
  go_ret
  exact ⟨by first | rfl | simp [hs], u1⟩
/-- BigInt of an Int: a copy. -/
theorem IntBigInt_114 (w : World) (p : Nat) (A : Option Addr) (m : Int) (h : IntV w p A m) (hm : Sm m) : Calls Tryz.prog 114 #[DV p] w (NewRes w m) := by
  have hpl := h.lt
  go_enter Tryz.func114, Tryz.ntmps114
  go_wp2_with fail
  refine (IntIsNil_156 _ p).mono ?_
  rintro e w2 ⟨rfl, hu2⟩
  have u2 := ((Upd.refl [] w).alloc (.cells #[.pointer (some ⟨p, 0, none⟩)] 101)).on0 hu2
  have hb := (Blk.new w 101 #[.pointer (some ⟨p, 0, none⟩)]).grow hu2
  have c0 := hb.one
  have hlt := hb.lt
  go_wp2_with fail
  have hz := Blk.new w2 133 #[.bool false, .slice none 0 0]
  have u3 := u2.alloc (.cells #[.bool false, .slice none 0 0] 133)
  obtain ⟨L, C, hbx, hS⟩ := h.grow u3
  refine (Set_any _ w2.heap.size p false none A 0 0 L C m.natAbs [] (decide (m < 0)) (by omega) hz (NatS.nil _) hbx hS (hm.len hS)).mono ?_
  rintro e w4 ⟨A4, L4, C4, rfl, hb4, hS4, hu4, hA4⟩
  have u4 := u3.on hu4 (by have := u2.size; omega)
  clear hb c0
  go_wp2
  go_ret
  exact ⟨_, A4, rfl, ⟨L4, C4, hb4, hS4⟩, u4, u2.size, fun b hb => Nat.le_trans u3.size (by simpa [bof] using hA4 b hb)⟩
/-- Clone of a decimal. -/
theorem Clone_203 (w : World) (p : Nat) (A : Option Addr) (m : Int) (h : IntV w p A m) (hm : Sm m) : Calls Tryz.prog 203 #[DV p] w (DecRes w m) := by
  have hpl := h.lt
  go_enter Tryz.func203, Tryz.ntmps203
  go_upto_region 1 with (fail)
  have hR := (Blk.new (w.alloc (.cells #[.pointer (some ⟨p, 0, none⟩)] 85)) 85 #[.pointer none])
  rw [World.size_alloc] at hR
  have hB := (Blk.new w 85 #[.pointer (some ⟨p, 0, none⟩)]).alloc (.cells #[.pointer none] 85)
  have u2 : Upd [] w ((w.alloc (.cells #[.pointer (some ⟨p, 0, none⟩)] 85)).alloc (.cells #[.pointer none] 85)) := ((Upd.refl [] w).alloc _).alloc _
  generalize (w.alloc (.cells #[.pointer (some ⟨p, 0, none⟩)] 85)).alloc (.cells #[.pointer none] 85) = w2 at *
  have c0 := hB.one
  have hBl := hB.lt
  go_wp2_with fail
  have hz := Blk.new w2 133 #[.bool false, .slice none 0 0]
  have u3 := u2.alloc (.cells #[.bool false, .slice none 0 0] 133)
  have hR3 := hR.alloc (.cells #[.bool false, .slice none 0 0] 133)
  obtain ⟨L, C, hbx, hS⟩ := h.grow u3
  have hs2 := u2.size
  have hs3 := u3.size
  have hRl := hR.lt
  refine (Set_any _ w2.heap.size p false none A 0 0 L C m.natAbs [] (decide (m < 0)) (by omega) hz (NatS.nil _) hbx hS (hm.len hS)).mono ?_
  rintro e w4 ⟨A4, L4, C4, rfl, hb4, hS4, hu4, hA4⟩
  have u4 := u3.on hu4 hs2
  have hR4 := hR3.upd hu4 (by simp [bof]; omega)
  have r0 := hR4.one
  have f0 := hR4.frozen 0
  have hl4 := hR4.lt
  have hI4 : IntV w4 w2.heap.size A4 m := ⟨L4, C4, hb4, hS4⟩
  clear hR hB c0 hR3 hz u2 u3 hbx hS hu4
  go_wp2
  refine bodyPost_ret (v := DV w2.heap.size) (by simp [results, Tryz.results203, r0, hl4, go_sem]) rfl ?_
  exact ⟨_, A4, rfl, hI4.set_far hR4 (by decide) (by omega) _ _, u4.setCell (by simp) _, hs2, fun b hb => Nat.le_trans hs3 (by simpa [bof] using hA4 b hb)⟩

theorem assertIn_204 (w : World) (p : Nat) (A : Option Addr) (a : Nat) (h : IntV w p A a) (ha : a < 2 ^ 256) (hN : Nums w) : Calls Tryz.prog 204 #[DV p] w fun e w' => e = .returned (.tuple #[]) ∧ Upd [] w w' := by
  have u1 : Upd [] w (w.alloc (.cells #[.pointer (some ⟨p, 0, none⟩)] 85)) := (Upd.refl _ _).alloc _
  have HC := hide (InRange_nat _ p A a (h.grow u1) ha (hN.grow u1))
  clear h ha
  go_enter Tryz.func204, Tryz.ntmps204
  go_wp2_with fail
  refine HC.out.mono ?_
  rintro e w2 ⟨rfl, hu⟩
  clear HC
  go_wp2
  go_end0
  exact ⟨rfl, u1.on0 hu⟩
/-- A coin of whole units by value. -/
theorem CoinValidate_155 (l : List UInt8) (hl : l.length ≤ 100000) (hd : isDen l = true) (p : Nat) (A : Option Addr) (a : Nat) (w : World) (h : IntV w p A a) :
    Calls Tryz.prog 155 #[CV (bs l) p] w fun e w' => e = .returned .nilIface ∧ Upd [] w w' := by
  have HV := hide (fun w => ValidateDenom_ok l hl hd w)
  have nn := n_nil_nil
  clear hd
  go_enter Tryz.func155, Tryz.ntmps155
  go_wp2_with fail
  refine (HV.out _).mono ?_
  rintro e w2 ⟨rfl, hu2⟩
  have u2 := ((Upd.refl [] w).alloc (.cells #[.string (bs l), .pointer (some ⟨p, 0, none⟩)] 103)).on0 hu2
  have hb := (Blk.new w 103 #[.string (bs l), .pointer (some ⟨p, 0, none⟩)]).grow hu2
  have c1 := hb.snd
  clear HV hu2
  go_wp2_with fail
  refine (IntIsNil_156 _ p).mono ?_
  rintro e w3 ⟨rfl, hu3⟩
  have u3 := u2.on0 hu3
  have hb3 := hb.grow hu3
  clear c1 u2 hb hu3
  have c1 := hb3.snd
  go_wp2_with fail
  refine (IntIsNeg_206 _ p A a (h.grow u3)).mono ?_
  rintro e w4 ⟨rfl, hu4⟩
  go_wp2
  go_ret
  exact ⟨rfl, u3.on0 hu4⟩
theorem NewCoin_113 (l : List UInt8) (hl : l.length ≤ 100000) (hd : isDen l = true) (p : Nat) (A : Option Addr) (a : Nat) (w : World) (h : IntV w p A a) :
    Calls Tryz.prog 113 #[.string (bs l), DV p] w fun e w' => e = .returned (CV (bs l) p) ∧ Upd [] w w' := by
  have HV := hide (fun w A h => CoinValidate_155 l hl hd p A a w h)
  have nn := n_nil_nil
  clear hd
  go_enter Tryz.func113, Tryz.ntmps113
  go_wp2_with fail
  have u1 := (((Upd.refl [] w).alloc (.cells #[.pointer (some ⟨p, 0, none⟩)] 101)).alloc (.cells #[.string ⟨#[]⟩, .pointer none] 103)).alloc (.cells #[.string (bs l), .pointer (some ⟨p, 0, none⟩)] 103)
  have hR := (Blk.new (w.alloc (.cells #[.pointer (some ⟨p, 0, none⟩)] 101)) 103 #[.string ⟨#[]⟩, .pointer none]).alloc (.cells #[.string (bs l), .pointer (some ⟨p, 0, none⟩)] 103)
  have hT := Blk.new ((w.alloc (.cells #[.pointer (some ⟨p, 0, none⟩)] 101)).alloc (.cells #[.string ⟨#[]⟩, .pointer none] 103)) 103 #[.string (bs l), .pointer (some ⟨p, 0, none⟩)]
  rw [World.size_alloc] at hR
  rw [World.size_alloc, World.size_alloc] at hT
  refine (HV.out _ A (h.grow u1)).mono ?_
  rintro e w2 ⟨rfl, hu2⟩
  have u2 := u1.on0 hu2
  have hR2 := hR.grow hu2
  have hT2 := hT.grow hu2
  clear hR hT u1 hu2 HV
  have t0 := hT2.fst
  have t1 := hT2.snd
  have r0 := hR2.fst
  have r1 := hR2.snd
  have f0 := hR2.frozen 0
  have f1 := hR2.frozen 1
  have hl2 := hR2.lt
  go_wp2
  refine bodyPost_ret (v := CV (bs l) p) (by simp [results, Tryz.results113, r0, r1, hl2, go_sem]) rfl ?_
  exact ⟨rfl, (u2.setCell (by simp) _).setCell (by simp) _⟩

end Go.Proofs.YtnajekpckbfcdaaGreatDoor

namespace Go.Proofs.YtnajekpckbfcdaaGreatDoor
open Go.RowKit

set_option maxRecDepth 20000 in
set_option maxHeartbeats 1000000 in
theorem SubMut_153 (w : World) (p q : Nat) (A B : Option Addr) (a b : Nat) (hab : b ≤ a) (hne : p ≠ q) (ha : IntV w p A a) (hb : IntV w q B b) (hsa : a < 2 ^ 256) (hN : Nums w) (hp15 : 15 ≤ p) (hA15 : ∀ x ∈ bof A, 15 ≤ x) :
    Calls Tryz.prog 153 #[DV p, DV q] w fun e w' => ∃ A', e = .returned (DV p) ∧ IntV w' p A' ((a - b : Nat) : Int) ∧ Upd (p :: bof A) w w' ∧ ∀ x ∈ bof A', x ∈ bof A ∨ w.heap.size ≤ x := by
  have hpl := ha.lt
  have hsm : ∀ c : Nat, c < 2 ^ 256 → Sm (c : Int) := fun c hc => by unfold Sm; rw [Int.natAbs_natCast]; exact Nat.lt_of_lt_of_le hc (by decide)
  have HSA := hide (hsm a hsa)
  have HSB := hide (hsm b (by omega))
  have HLT := hide (show a - b < 2 ^ 256 by omega)
  clear hsm hsa
  go_enter Tryz.func153, Tryz.ntmps153
  go_wp2_with fail
  have u1 : Upd [] w (((w.alloc (.cells #[.pointer (some ⟨p, 0, none⟩)] 85)).alloc (.cells #[.pointer (some ⟨q, 0, none⟩)] 85)).alloc (.cells #[.pointer none] 85)) := (((Upd.refl [] w).alloc _).alloc _).alloc _
  have hX := ((Blk.new w 85 #[.pointer (some ⟨p, 0, none⟩)]).alloc (.cells #[.pointer (some ⟨q, 0, none⟩)] 85)).alloc (.cells #[.pointer none] 85)
  have hR := Blk.new ((w.alloc (.cells #[.pointer (some ⟨p, 0, none⟩)] 85)).alloc (.cells #[.pointer (some ⟨q, 0, none⟩)] 85)) 85 #[.pointer none]
  rw [World.size_alloc, World.size_alloc] at hR
  refine (Sub_nat_in _ p q A B a b hab hne (ha.grow u1) (hb.grow u1) HSA.out HSB.out).mono ?_
  rintro e w2 ⟨A2, rfl, hI2, hu2, hA2⟩
  have hrl : ∀ x ∈ bof A, x < w.heap.size := ha.row_lt
  have hns : ∀ g, w.heap.size ≤ g → g ∉ (p :: bof A) := fun g hg hm => by
    rcases List.mem_cons.1 hm with rfl | hm
    · omega
    · have := hrl g hm; omega
  have hX2 := hX.upd hu2 (hns _ (Nat.le_refl _))
  have hR2 := hR.upd hu2 (hns _ (by omega))
  have u2 : Upd (p :: bof A) w w2 := (Upd.mono (S' := p :: bof A) u1 (by simp)).trans hu2 (fun k hk _ => hk)
  have hN2 := (hN.grow u1).upd hu2 (fun k hk => by rcases List.mem_cons.1 hk with rfl | hk; exact hp15; exact hA15 k hk)
  have c0 := hX2.one
  have hs2 : w.heap.size ≤ w2.heap.size := u2.size
  have HA2 := hide hA2
  clear hX hR hu2 hA2
  go_wp2_with fail
  refine (assertIn_204 w2 p A2 (a - b) hI2 HLT.out hN2).mono ?_
  rintro e w3 ⟨rfl, hu3⟩
  have hX3 := hX2.grow hu3
  have hR3 := hR2.grow hu3
  have hI3 := hI2.grow hu3
  have u3 : Upd (p :: bof A) w w3 := u2.trans hu3 (by simp)
  have hl3 := hR3.lt
  clear c0 hX2 hR2 hI2 u2 hu3 hN2
  have c0 := hX3.one
  have r0 := hR3.one
  have f0 := hR3.frozen 0
  go_wp2
  refine bodyPost_ret (v := DV p) (by simp [results, Tryz.results153, r0, hl3, go_sem]) rfl ?_
  refine ⟨A2, rfl, hI3.set_far hR3 (by decide) (by omega) _ _, u3.setCell (fun h => absurd (show w.heap.size + 1 + 1 < w.heap.size from h) (by omega)) _, fun x hx => ?_⟩
  rcases HA2.out x hx with h | h
  · exact .inl h
  · exact .inr (Nat.le_trans u1.size h)

theorem Blk.put0' {w : World} {g : Nat} {t : TypeId} {a : Value} (h : Blk w g t #[a]) (u : Value) : Blk (w.setCell ⟨g, 0, none⟩ u) g t #[u] := h.set_ 0 u
set_option maxRecDepth 20000 in
set_option maxHeartbeats 2000000 in
theorem ImmutOp_152 (w : World) (p q : Nat) (A B : Option Addr) (a b : Nat) (hab : b ≤ a) (ha : IntV w p A a) (hb : IntV w q B b) (hsa : a < 2 ^ 256) (hN : Nums w) :
    Calls Tryz.prog 152 #[DV p, .func (Fn.func 153) #[] #[], DV q] w (DecRes w ((a - b : Nat) : Int)) := by
  have hsm : Sm (a : Int) := by unfold Sm; rw [Int.natAbs_natCast]; exact Nat.lt_of_lt_of_le hsa (by decide)
  have HSA := hide hsm
  have HLA := hide hsa
  have hql := hb.lt
  have h15 := hN.size
  clear hsm hsa
  go_enter Tryz.func152, Tryz.ntmps152
  go_upto_region 1 with (fail)
  have u1 : Upd [] w (((w.alloc (.cells #[.pointer (some ⟨p, 0, none⟩)] 85)).alloc (.cells #[.pointer (some ⟨q, 0, none⟩)] 85)).alloc (.cells #[.pointer none] 85)) := (((Upd.refl [] w).alloc _).alloc _).alloc _
  have hX := ((Blk.new w 85 #[.pointer (some ⟨p, 0, none⟩)]).alloc (.cells #[.pointer (some ⟨q, 0, none⟩)] 85)).alloc (.cells #[.pointer none] 85)
  have hY := (Blk.new (w.alloc (.cells #[.pointer (some ⟨p, 0, none⟩)] 85)) 85 #[.pointer (some ⟨q, 0, none⟩)]).alloc (.cells #[.pointer none] 85)
  have hR := Blk.new ((w.alloc (.cells #[.pointer (some ⟨p, 0, none⟩)] 85)).alloc (.cells #[.pointer (some ⟨q, 0, none⟩)] 85)) 85 #[.pointer none]
  rw [World.size_alloc, World.size_alloc] at hR
  rw [World.size_alloc] at hY
  generalize ((w.alloc (.cells #[.pointer (some ⟨p, 0, none⟩)] 85)).alloc (.cells #[.pointer (some ⟨q, 0, none⟩)] 85)).alloc (.cells #[.pointer none] 85) = w1 at *
  have u1d := u1.drew
  have hXd := hX.drew
  have hYd := hY.drew
  have hRd := hR.drew
  have c1 := hXd.one
  have d1 := hYd.one
  go_region_held3 (fun w' => w'.cell? ⟨w.heap.size, 0, none⟩ = some (.pointer (some ⟨p, 0, none⟩)) ∧ w'.cell? ⟨w.heap.size + 1, 0, none⟩ = some (.pointer (some ⟨q, 0, none⟩)))
    (first | exact ⟨c4, d4⟩ | exact ⟨c3, d3⟩ | exact ⟨c2, d2⟩ | exact ⟨c1, d1⟩)
    (first
      | (go_at_call 203; refine (Clone_203 _ p A a (ha.grow u1d) HSA.out).mono ?_; rintro e w2 ⟨p2, A2, rfl, hI2, hu2, hp2, hA2⟩; have u2 := u1d.on0 hu2; have hX2 := hXd.grow hu2; have hY2 := hYd.grow hu2; have hR2 := hRd.grow hu2; have c2 := hX2.one; have d2 := hY2.one)
      | (go_at_call 153; refine (SubMut_153 w2 p2 q A2 B a b hab (by have := u1d.size; omega) hI2 (hb.grow u2) HLA.out (hN.grow u2) (by have := u1d.size; omega) (fun x hx => by have := hA2 x hx; have := u1d.size; omega)).mono ?_; rintro e w3 ⟨A3, rfl, hI3, hu3, hA3⟩; have hns : ∀ g, g < w1.heap.size → g ∉ (p2 :: bof A2) := (fun g hg hm => by have h1 : w1.heap.size ≤ p2 := hp2; rcases List.mem_cons.1 hm with rfl | hm; omega; have h2 : w1.heap.size ≤ g := hA2 g hm; omega); have hX3 := hX2.upd hu3 (hns _ hX.lt); have hY3 := hY2.upd hu3 (hns _ hY.lt); have hR3 := hR2.upd hu3 (hns _ hR.lt); have c3 := hX3.one; have d3 := hY3.one; have r3 := hR3.one; have f3 := hR3.frozen 0; have c4 := (hX3.far (p := ⟨w.heap.size + 1 + 1, 0, none⟩) (show w.heap.size ≠ w.heap.size + 1 + 1 by omega) (.pointer (some ⟨p2, 0, none⟩))).one; have d4 := (hY3.far (p := ⟨w.heap.size + 1 + 1, 0, none⟩) (show w.heap.size + 1 ≠ w.heap.size + 1 + 1 by omega) (.pointer (some ⟨p2, 0, none⟩))).one))
  have hI3' := hI3.set_far (i := 0) (u := .pointer (some ⟨p2, 0, none⟩)) hR3 (by decide) (by have h1 : w1.heap.size ≤ p2 := hp2; have := hR.lt; omega)
  have hR4 := hR3.put0' (.pointer (some ⟨p2, 0, none⟩))
  have hs1 := u1.size
  have h1p : w1.heap.size ≤ p2 := hp2
  have h2p : w1.heap.size ≤ w2.heap.size := hu2.size
  have u3 : Upd [] w w3 := u2.trans hu3 (fun k hk hlt => by
    rcases List.mem_cons.1 hk with rfl | hk
    · omega
    · have : w1.heap.size ≤ k := hA2 k hk
      omega)
  have u4 : Upd [] w (w3.setCell ⟨w.heap.size + 1 + 1, 0, none⟩ (.pointer (some ⟨p2, 0, none⟩))) := u3.setCell (fun h => absurd (show w.heap.size + 1 + 1 < w.heap.size from h) (by omega)) _
  have HA := hide (fun x hx => (by rcases hA3 x hx with h | h; exact Nat.le_trans hs1 (hA2 x h); exact Nat.le_trans (Nat.le_trans hs1 h2p) h) : ∀ x ∈ bof A3, w.heap.size ≤ x)
  have r4 := hR4.one
  have hl4 := hR4.lt
  generalize w3.setCell ⟨w.heap.size + 1 + 1, 0, none⟩ (.pointer (some ⟨p2, 0, none⟩)) = w4 at *
  clear c1 d1 c2 d2 c3 d3 r3 f3 c4 d4
  go_wp2
  refine bodyPost_ret (v := DV p2) (by simp [results, Tryz.results152, r4, hl4, go_sem]) rfl ?_
  exact ⟨p2, A3, rfl, hI3', u4, by omega, HA.out⟩

set_option maxRecDepth 20000 in
theorem Sub_111 (w : World) (p q : Nat) (A B : Option Addr) (a b : Nat) (hab : b ≤ a) (ha : IntV w p A a) (hb : IntV w q B b) (hsa : a < 2 ^ 256) (hN : Nums w) :
    Calls Tryz.prog 111 #[DV p, DV q] w (DecRes w ((a - b : Nat) : Int)) := by
  have HI := hide (fun w' (hu : Upd [] w w') => ImmutOp_152 w' p q A B a b hab (ha.grow hu) (hb.grow hu) hsa (hN.grow hu))
  clear hsa
  go_enter Tryz.func111, Tryz.ntmps111
  go_wp2_with fail
  have u1 : Upd [] w (((w.alloc (.cells #[.pointer (some ⟨p, 0, none⟩)] 85)).alloc (.cells #[.pointer (some ⟨q, 0, none⟩)] 85)).alloc (.cells #[.pointer none] 85)) := (((Upd.refl [] w).alloc _).alloc _).alloc _
  have hR := Blk.new ((w.alloc (.cells #[.pointer (some ⟨p, 0, none⟩)] 85)).alloc (.cells #[.pointer (some ⟨q, 0, none⟩)] 85)) 85 #[.pointer none]
  rw [World.size_alloc, World.size_alloc] at hR
  refine (HI.out _ u1).mono ?_
  rintro e w2 ⟨p2, A2, rfl, hI2, hu2, hp2, hA2⟩
  have u2 := u1.on0 hu2
  have hR2 := hR.grow hu2
  have hs1 := u1.size
  have r2 := hR2.one
  have f2 := hR2.frozen 0
  have hl2 := hR2.lt
  have hRl := hR.lt
  have HA := hide (fun x hx => Nat.le_trans hs1 (hA2 x hx) : ∀ x ∈ bof A2, w.heap.size ≤ x)
  clear hA2
  go_wp2
  refine bodyPost_ret (v := DV p2) (by simp [results, Tryz.results111, r2, hl2, go_sem]) rfl ?_
  exact ⟨p2, A2, rfl, hI2.set_far hR2 (by decide) (by omega) _ _, u2.setCell (fun h => absurd (show w.heap.size + 1 + 1 < w.heap.size from h) (by omega)) _, by omega, HA.out⟩

end Go.Proofs.YtnajekpckbfcdaaGreatDoor

namespace Go.Proofs.YtnajekpckbfcdaaGreatDoor
open Go.RowKit

set_option maxRecDepth 20000 in
set_option maxHeartbeats 1000000 in
theorem FromIntPrec_154 (w : World) (p : Nat) (A : Option Addr) (a : Nat) (N : Nat) (hNv : N = 10 ^ 18) (h : IntV w p A a) (ha : a < 18446744073709551616) (hN : Nums w) :
    Calls Tryz.prog 154 #[DV p, .int .i64 0] w (DecRes w ((a * N : Nat) : Int)) := by
  have hsm : Sm (a : Int) := by unfold Sm; rw [Int.natAbs_natCast]; exact Nat.lt_of_lt_of_le ha (by decide)
  have hsN : Sm (N : Int) := by unfold Sm; rw [Int.natAbs_natCast, hNv]; decide
  have HS := hide hsm
  have HSN := hide hsN
  have HM := hide (fun w hN => mult_0 w N hNv hN)
  have HA := hide ha
  have hpl := h.lt
  clear hsm hsN ha hNv
  go_enter Tryz.func154, Tryz.ntmps154
  go_upto_region 1 with (fail)
  have u1 : Upd [] w ((w.alloc (.cells #[.pointer (some ⟨p, 0, none⟩)] 101)).alloc (.cells #[.pointer none] 85)) := ((Upd.refl [] w).alloc _).alloc _
  have hX := (Blk.new w 101 #[.pointer (some ⟨p, 0, none⟩)]).alloc (.cells #[.pointer none] 85)
  have hR := Blk.new (w.alloc (.cells #[.pointer (some ⟨p, 0, none⟩)] 101)) 85 #[.pointer none]
  rw [World.size_alloc] at hR
  generalize (w.alloc (.cells #[.pointer (some ⟨p, 0, none⟩)] 101)).alloc (.cells #[.pointer none] 85) = w1 at *
  have c0 := hX.one
  have hXl := hX.lt
  go_wp2_with fail
  have hz := Blk.new w1 133 #[.bool false, .slice none 0 0]
  have u2 := u1.alloc (.cells #[.bool false, .slice none 0 0] 133)
  have hR2 := hR.alloc (.cells #[.bool false, .slice none 0 0] 133)
  have hs1 := u1.size
  have hRl := hR.lt
  refine (BigIntMut_205 _ p).mono ?_
  rintro e w3 ⟨rfl, hu3⟩
  have u3 := u2.on0 hu3
  have hR3 := hR2.grow hu3
  have hz3 := hz.grow hu3
  clear c0 hX hR u2 hR2 hz hu3
  go_wp2_with fail
  refine (HM.out _ (hN.grow u3)).mono ?_
  rintro e w4 ⟨p4, A4, rfl, hI4, hu4, hp4, hA4⟩
  have u4 := u3.on0 hu4
  have hR4 := hR3.grow hu4
  have hz4 := hz3.grow hu4
  have h4 := h.grow u4
  have hl3 := hz3.lt
  clear u3 hR3 hz3 hu4 HM
  go_wp2_with fail
  refine (Mul_any w4 w1.heap.size p p4 false none A A4 0 0 [] a N (by omega) (by omega) (by omega) hz4 (NatS.nil _) h4 hI4 HS.out HSN.out (.inl (by rw [Int.natAbs_natCast]; exact HA.out))).mono ?_
  rintro e w5 ⟨A5, rfl, hI5, hu5, hA5⟩
  have u5 := u4.on hu5 hs1
  have hR5 := hR4.upd hu5 (by simp [bof]; omega)
  have hI5' : IntV w5 w1.heap.size A5 ((a * N : Nat) : Int) := by rw [Int.natCast_mul]; exact hI5
  have hs4 := u4.size
  have hA := hide (fun x hx => Nat.le_trans hs4 (by simpa [bof] using hA5 x hx) : ∀ x ∈ bof A5, w.heap.size ≤ x)
  have r5 := hR5.one
  have f5 := hR5.frozen 0
  have hl5 := hR5.lt
  clear hI5 hA5 hu5 hR4 hz4 hI4 h4 HS HSN
  go_wp2
  refine bodyPost_ret (v := DV w1.heap.size) (by simp [results, Tryz.results154, r5, hl5, go_sem]) rfl ?_
  exact ⟨_, A5, rfl, hI5'.set_far hR5 (by decide) (by omega) _ _, u5.setCell (fun h => absurd (show w.heap.size + 1 < w.heap.size from h) (by omega)) _, by omega, hA.out⟩
theorem FromInt_112 (w : World) (p : Nat) (A : Option Addr) (a : Nat) (N : Nat) (hNv : N = 10 ^ 18) (h : IntV w p A a) (ha : a < 18446744073709551616) (hN : Nums w) :
    Calls Tryz.prog 112 #[DV p] w (DecRes w ((a * N : Nat) : Int)) := by
  have HI := hide (fun w' (hu : Upd [] w w') => FromIntPrec_154 w' p A a N hNv (h.grow hu) ha (hN.grow hu))
  clear ha hNv
  go_enter Tryz.func112, Tryz.ntmps112
  go_wp2_with fail
  have u1 : Upd [] w ((w.alloc (.cells #[.pointer (some ⟨p, 0, none⟩)] 101)).alloc (.cells #[.pointer none] 85)) := ((Upd.refl [] w).alloc _).alloc _
  have hR := Blk.new (w.alloc (.cells #[.pointer (some ⟨p, 0, none⟩)] 101)) 85 #[.pointer none]
  rw [World.size_alloc] at hR
  refine (HI.out _ u1).mono ?_
  rintro e w2 ⟨p2, A2, rfl, hI2, hu2, hp2, hA2⟩
  have u2 := u1.on0 hu2
  have hR2 := hR.grow hu2
  have hs1 := u1.size
  have r2 := hR2.one
  have f2 := hR2.frozen 0
  have hl2 := hR2.lt
  have hRl := hR.lt
  have HA := hide (fun x hx => Nat.le_trans hs1 (hA2 x hx) : ∀ x ∈ bof A2, w.heap.size ≤ x)
  clear hA2
  go_wp2
  refine bodyPost_ret (v := DV p2) (by simp [results, Tryz.results112, r2, hl2, go_sem]) rfl ?_
  exact ⟨p2, A2, rfl, hI2.set_far hR2 (by decide) (by omega) _ _, u2.setCell (fun h => absurd (show w.heap.size + 1 < w.heap.size from h) (by omega)) _, by omega, HA.out⟩

end Go.Proofs.YtnajekpckbfcdaaGreatDoor
