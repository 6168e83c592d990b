/-
  Quo, Truncate, TruncateDecimal.
-/
import Derived.Test.YtnajekpckbfcdaaGreatDoorN3
set_option linter.unusedVariables false
set_option linter.unusedSimpArgs false
namespace Go.Proofs.YtnajekpckbfcdaaGreatDoor
open Go.RowKit

set_option maxRecDepth 20000 in
set_option maxHeartbeats 4000000 in
theorem QuoIn_238 (w : World) (px py : Nat) (X Y : Option Addr) (a : Nat) (hxy : px ≠ py) (hx : IntV w px X a) (hy : IntV w py Y (1000000000000000000 : Nat)) (ha : Sm a) :
    Calls Tryz.prog 238 #[.pointer (some ⟨px, 0, none⟩), .pointer (some ⟨px, 0, none⟩), .pointer (some ⟨py, 0, none⟩)] w fun e w' =>
      ∃ A, e = .returned (.pointer (some ⟨px, 0, none⟩)) ∧ IntV w' px A (a / 1000000000000000000 : Nat) ∧ Upd (px :: bof X) w w' ∧ (∀ b ∈ bof A, b ∈ bof X ∨ w.heap.size ≤ b) := by
  obtain ⟨Lx, Cx, hxb, hX⟩ := hx
  obtain ⟨Ly, Cy, hyb, hY⟩ := hy
  have hLx := ha.len hX
  rw [decide_eq_false (by omega)] at hxb hyb
  rw [Int.natAbs_natCast] at hX hY
  have hLy : Ly = 1 := by rw [← hY.1, wo_one (by omega) (by omega)]; rfl
  subst hLy
  have hyX : py ∉ bof X := hX.not_mem hyb (by decide)
  have hxX : px ∉ bof X := hX.not_mem hxb (by decide)
  have hd := div_18 w.drew X X Y Lx Cx Lx Cx Cy a _ hX.drew hX.drew hLx hY.drew
  obtain ⟨q, hq⟩ : ∃ q, a / 1000000000000000000 = q := ⟨_, rfl⟩
  rw [hq] at hd
  rw [hq]
  have HC := hide hd
  clear hd hq
  have cx1 := hxb.snd
  have cy1 := hyb.snd
  go_enter Tryz.func238, Tryz.ntmps238
  go_wp2_with fail
  refine wp_region_tail 1 13 (by kernel_rfl) (by kernel_rfl) ?_ ?_
  · intro d v c a w h; cases d <;> exact h
  simp only [List.take_succ_cons, List.take_zero, List.drop_succ_cons, List.drop_zero]
  repeat still_step
  refine wpStill_nil ?_
  change wpList _ _ _ _ _ w.drew
  go_wp2_with fail
  refine HC.out.mono ?_
  rintro e w2 ⟨A, L, C, B, M, D, rfl, hS, hS2, hu, hA, hB⟩
  clear HC
  have hu := hu.undrew
  have hx2 := hxb.upd hu hxX
  have hy2 := hyb.upd hu hyX
  have cx2 := hx2.snd
  have fx2 := hx2.frozen 1
  have hx3 := hx2.put1 (.slice A L C)
  have hy3 := hy2.far (p := ⟨px, 1, none⟩) (Ne.symm hxy) (.slice A L C)
  have hA3 := hS.setCell (p := ⟨px, 1, none⟩) (hS.not_mem hx2 (by decide)) (.slice A L C)
  have hu3 : Upd (px :: bof X) w (w2.setCell ⟨px, 1, none⟩ (.slice A L C)) := (hu.mono (fun b hb _ => List.mem_cons_of_mem _ hb)).setCell (by simp) _
  have hA4 : ∀ b ∈ bof A, b ∈ bof X ∨ w.heap.size ≤ b := fun b hb => by simpa using hA b hb
  have HA4 := hide hA4
  clear hA hB hA4 hu cx1 cy1 hS2
  go_upto_region 2 with (fail)
  clear cx2 fx2
  generalize w2.setCell ⟨px, 1, none⟩ (.slice A L C) = w3 at hx3 hy3 hA3 hu3 ⊢
  clear hx2 hy2
  have fx3 := hx3.frozen 0
  have cx30 := hx3.fst
  have cx31 := hx3.snd
  have cy30 := hy3.fst
  have nxy : ¬ py = px := Ne.symm hxy
  rcases (by omega : L = 0 ∨ 0 < L) with hL | hL
  · have t1 : ¬ (0 : Int) < (L : Int) := by omega
    go_region
    all_goals go_wp2
    all_goals go_ret
    all_goals (
      first
        | refine ⟨rfl, A, ⟨L, C, ?_, ?_⟩, (hu3.setCell (by simp) _).drew, HA4.out⟩
        | refine ⟨A, rfl, ⟨L, C, ?_, ?_⟩, (hu3.setCell (by simp) _).drew, HA4.out⟩
      · rw [decide_eq_false (by omega)]; exact (hx3.put0 _).drew
      · rw [Int.natAbs_natCast]; exact (hA3.setCell (hA3.not_mem hx3 (by decide)) _).drew)
  · have t1 : (0 : Int) < (L : Int) := by omega
    go_region
    all_goals go_wp2
    all_goals go_ret
    all_goals (
      first
        | refine ⟨rfl, A, ⟨L, C, ?_, ?_⟩, (hu3.setCell (by simp) _).drew, HA4.out⟩
        | refine ⟨A, rfl, ⟨L, C, ?_, ?_⟩, (hu3.setCell (by simp) _).drew, HA4.out⟩
      · rw [decide_eq_false (by omega)]; exact (hx3.put0 _).drew
      · rw [Int.natAbs_natCast]; exact (hA3.setCell (hA3.not_mem hx3 (by decide)) _).drew)

set_option maxRecDepth 20000 in
set_option maxHeartbeats 1000000 in
theorem chop_202 (w : World) (p : Nat) (A : Option Addr) (a : Nat) (h : IntV w p A a) (ha : Sm a) (hN : Nums w) :
    Calls Tryz.prog 202 #[.pointer (some ⟨p, 0, none⟩)] w fun e w' =>
      ∃ A', e = .returned (.tuple #[]) ∧ IntV w' p A' (a / 1000000000000000000 : Nat) ∧ Upd (p :: bof A) w w' ∧ (∀ b ∈ bof A', b ∈ bof A ∨ w.heap.size ≤ b) := by
  have HA := hide ha
  have HPR := hide (fun w (hN : Nums w) => precisionReuse_any w 1000000000000000000 (by decide) hN)
  have hpl := h.lt
  clear ha
  go_enter Tryz.func202, Tryz.ntmps202
  go_wp2_with fail
  refine (HPR.out w hN).mono ?_
  rintro e w2 ⟨p2, A2, rfl, hI2, hu2, hp2, hA2⟩
  have h2 := h.grow hu2
  have hs2 := hu2.size
  clear HPR
  go_wp2_with fail
  refine (QuoIn_238 w2 p p2 A A2 a (by omega) h2 hI2 HA.out).mono ?_
  rintro e w3 ⟨A3, rfl, hI3, hu3, hA3⟩
  have u3 : Upd (p :: bof A) w w3 := (hu2.mono (S' := p :: bof A) (by simp)).trans hu3 (fun k hk _ => hk)
  clear h2 hI2
  go_wp2
  go_end0
  exact ⟨A3, rfl, hI3, u3, fun b hb => (hA3 b hb).imp id (Nat.le_trans hs2)⟩

set_option maxRecDepth 20000 in
set_option maxHeartbeats 1000000 in
theorem chopNew_151 (w : World) (p : Nat) (A : Option Addr) (a : Nat) (h : IntV w p A a) (ha : Sm a) (hN : Nums w) :
    Calls Tryz.prog 151 #[.pointer (some ⟨p, 0, none⟩)] w (NewRes w (a / 1000000000000000000 : Nat)) := by
  have HA := hide ha
  have hpl := h.lt
  go_enter Tryz.func151, Tryz.ntmps151
  go_wp2_with fail
  have hz := Blk.new w 133 #[.bool false, .slice none 0 0]
  have u1 := (Upd.refl [] w).alloc (.cells #[.bool false, .slice none 0 0] 133)
  obtain ⟨L, C, hbx, hS⟩ := h.grow u1
  refine (Set_any _ w.heap.size p false none A 0 0 L C a [] (decide ((a : Int) < 0)) (by omega) hz (NatS.nil _) hbx (by simpa using hS) (ha.len hS)).mono ?_
  rintro e w2 ⟨A2, L2, C2, rfl, hb2, hS2, hu2, hA2⟩
  have u2 := u1.on hu2 (Nat.le_refl _)
  have hI2 : IntV w2 w.heap.size A2 a := ⟨L2, C2, hb2, by simpa using hS2⟩
  have hs1 := u1.size
  have hA2' : ∀ b ∈ bof A2, w.heap.size ≤ b := fun b hb => Nat.le_trans hs1 (by simpa [bof] using hA2 b hb)
  have HA2 := hide hA2'
  clear hz u1 hbx hS hb2 hS2 hu2 hA2 hA2' ha
  go_wp2_with fail
  refine (chop_202 w2 w.heap.size A2 a hI2 HA.out (hN.grow u2)).mono ?_
  rintro e w3 ⟨A3, rfl, hI3, hu3, hA3⟩
  have hA3' : ∀ b ∈ bof A3, w.heap.size ≤ b := fun b hb => (hA3 b hb).elim (HA2.out b) (Nat.le_trans u2.size)
  have u3 : Upd [] w w3 := u2.trans hu3 (fun k hk hlt => by
    rcases List.mem_cons.1 hk with rfl | hk
    · omega
    · have := HA2.out k hk; omega)
  go_wp2
  go_ret
  exact ⟨_, A3, rfl, hI3, u3, Nat.le_refl _, hA3'⟩

end Go.Proofs.YtnajekpckbfcdaaGreatDoor

namespace Go.Proofs.YtnajekpckbfcdaaGreatDoor
open Go.RowKit

theorem n_ptr83_nil (w : World) (b : Nat) : (binOp .eql 83 (.pointer (some ⟨b, 0, none⟩)) (.pointer none)).run Tryz.prog w = .ok (.bool false) w := by kernel_rfl

set_option maxRecDepth 20000 in
theorem Bits_239 (w : World) (p : Nat) (n : Bool) (A : Option Addr) (L C : Nat) (h : Blk w p 133 #[.bool n, .slice A L C]) :
    Calls Tryz.prog 239 #[.pointer (some ⟨p, 0, none⟩)] w fun e w' => e = .returned (.slice A L C) ∧ w = w' := by
  have c1 := h.snd
  go_enter Tryz.func239, Tryz.ntmps239
  go_wp2
  go_ret
  exact ⟨rfl, rfl⟩

set_option maxRecDepth 20000 in
theorem over_201 (w : World) (p : Nat) (A : Option Addr) (a : Nat) (h : IntV w p A a) (ha : a < 18446744073709551616) :
    Calls Tryz.prog 201 #[.pointer (some ⟨p, 0, none⟩)] w fun e w' => e = .returned (.bool false) ∧ w = w' := by
  obtain ⟨L, C, hb, hS⟩ := h
  rw [Int.natAbs_natCast] at hS
  have hL : L ≤ 1 := by rw [← hS.1]; exact wo_len_le (by rw [Nat.pow_one]; omega)
  have t1 : ¬ (4 : Int) < (L : Int) := by omega
  have HC := hide (Bits_239 w p _ A L C hb)
  clear hb hS ha
  go_enter Tryz.func201, Tryz.ntmps201
  go_wp2_with fail
  refine HC.out.mono ?_
  rintro e w1 ⟨rfl, rfl⟩
  go_wp2
  go_ret
  exact ⟨rfl, rfl⟩

set_option maxRecDepth 20000 in
theorem NewIntMut_150 (w : World) (p : Nat) (A : Option Addr) (a : Nat) (h : IntV w p A a) (ha : a < 18446744073709551616) :
    Calls Tryz.prog 150 #[.pointer (some ⟨p, 0, none⟩)] w fun e w' => e = .returned (DV p) ∧ Upd [] w w' := by
  have u1 : Upd [] w (w.alloc (.cells #[.pointer none] 101)) := (Upd.refl [] w).alloc _
  have HC := hide (over_201 _ p A a (h.grow u1) ha)
  have nn := n_ptr83_nil (w.alloc (.cells #[.pointer none] 101)) p
  have hR := Blk.new w 101 #[.pointer none]
  have r0 := hR.one
  have f0 := hR.frozen 0
  have hl := hR.lt
  clear h ha
  go_enter Tryz.func150, Tryz.ntmps150
  go_wp2_with fail
  refine HC.out.mono ?_
  rintro e w2 ⟨rfl, rfl⟩
  clear HC
  go_wp2
  refine bodyPost_ret (v := DV p) (by simp [results, Tryz.results150, r0, hl, go_sem]) rfl ?_
  exact ⟨rfl, (Upd.refl [] w).alloc _⟩

set_option maxRecDepth 20000 in
theorem Trunc_110 (w : World) (p : Nat) (A : Option Addr) (a : Nat) (h : IntV w p A a) (ha : a < 18446744073709551616 * 1000000000000000000) (hN : Nums w) :
    Calls Tryz.prog 110 #[DV p] w (DecRes w ((a / 1000000000000000000 : Nat) : Int)) := by
  have hsm : Sm (a : Int) := by unfold Sm; rw [Int.natAbs_natCast]; exact Nat.lt_of_lt_of_le ha (by decide)
  have hq : a / 1000000000000000000 < 18446744073709551616 := by omega
  have HI := hide (fun w' (hu : Upd [] w w') => chopNew_151 w' p A a (h.grow hu) hsm (hN.grow hu))
  have HQ := hide hq
  clear hsm hq ha
  go_enter Tryz.func110, Tryz.ntmps110
  go_upto_region 1 with (fail)
  have u1 : Upd [] w ((w.alloc (.cells #[.pointer (some ⟨p, 0, none⟩)] 85)).alloc (.cells #[.pointer none] 101)) := ((Upd.refl [] w).alloc _).alloc _
  have hB := (Blk.new w 85 #[.pointer (some ⟨p, 0, none⟩)]).alloc (.cells #[.pointer none] 101)
  have hR := Blk.new (w.alloc (.cells #[.pointer (some ⟨p, 0, none⟩)] 85)) 101 #[.pointer none]
  rw [World.size_alloc] at hR
  have c0 := hB.one
  have hBl := hB.lt
  generalize (w.alloc (.cells #[.pointer (some ⟨p, 0, none⟩)] 85)).alloc (.cells #[.pointer none] 101) = w1 at *
  go_wp2_with fail
  refine (HI.out _ u1).mono ?_
  rintro e w2 ⟨p2, A2, rfl, hI2, hu2, hp2, hA2⟩
  have u2 := u1.on0 hu2
  have hR2 := hR.grow hu2
  have hs1 := u1.size
  have HA := hide (fun x hx => Nat.le_trans hs1 (hA2 x hx) : ∀ x ∈ bof A2, w.heap.size ≤ x)
  have hR1l := hR.lt
  clear HI hA2 c0 hB hR u1 hu2
  go_wp2_with fail
  refine (NewIntMut_150 w2 p2 A2 _ hI2 HQ.out).mono ?_
  rintro e w3 ⟨rfl, hu3⟩
  have u3 := u2.on0 hu3
  have hR3 := hR2.grow hu3
  have hI3 := hI2.grow hu3
  have r3 := hR3.one
  have f3 := hR3.frozen 0
  have hl3 := hR3.lt
  clear hI2 hR2 u2 hu3 HQ
  go_wp2
  refine bodyPost_ret (v := DV p2) (by simp [results, Tryz.results110, r3, hl3, go_sem]) rfl ?_
  exact ⟨p2, A2, rfl, hI3.set_far hR3 (by decide) (by omega) _ _, u3.setCell (fun h => absurd (show w.heap.size + 1 < w.heap.size from h) (by omega)) _, by omega, HA.out⟩

end Go.Proofs.YtnajekpckbfcdaaGreatDoor

namespace Go.Proofs.YtnajekpckbfcdaaGreatDoor
open Go.RowKit

set_option maxRecDepth 20000 in
set_option maxHeartbeats 16000000 in
theorem TruncDec_79 (l : List UInt8) (hl : l.length ≤ 100000) (hd : isDen l = true) (w : World) (q : Nat) (A : Option Addr) (a : Nat) (h : IntV w q A a) (ha : a < 18446744073709551616 * 1000000000000000000) (hN : Nums w) :
    Calls Tryz.prog 79 #[CV (bs l) q] w fun e w' =>
      ∃ p1 A1 p2 A2, e = .returned (.tuple #[CV (bs l) p1, CV (bs l) p2]) ∧ IntV w' p1 A1 (a / 1000000000000000000 : Nat) ∧ IntV w' p2 A2 (a % 1000000000000000000 : Nat) ∧ Upd [] w w' ∧ w.heap.size ≤ p1 ∧ w.heap.size ≤ p2 ∧
        (∀ b ∈ bof A1, w.heap.size ≤ b) ∧ (∀ b ∈ bof A2, w.heap.size ≤ b) := by
  obtain ⟨k, hk⟩ : ∃ k, a / 1000000000000000000 = k := ⟨_, rfl⟩
  have hk1 : k < 18446744073709551616 := by omega
  have hk2 : k * 1000000000000000000 ≤ a := by omega
  have hk3 : a - k * 1000000000000000000 = a % 1000000000000000000 := by omega
  have hk4 : a < 2 ^ 256 := Nat.lt_of_lt_of_le ha (by decide)
  have HT := hide (fun w' (hu : Upd [] w w') => Trunc_110 w' q A a (h.grow hu) ha (hN.grow hu))
  have HF := hide (fun w' p' A' (hI : IntV w' p' A' k) (hu : Upd [] w w') => FromInt_112 w' p' A' k 1000000000000000000 (by decide) hI hk1 (hN.grow hu))
  have HS := hide (fun w' p' A' (hI : IntV w' p' A' (k * 1000000000000000000 : Nat)) (hu : Upd [] w w') => Sub_111 w' q p' A A' a (k * 1000000000000000000) hk2 (h.grow hu) hI hk4 (hN.grow hu))
  have HNC := hide (fun w' p' A' a' h' => NewCoin_113 l hl hd p' A' a' w' h')
  have HND := hide (fun w' p' A' a' h' => NewDecCoin_64 l hl hd p' A' a' w' h')
  have HK3 := hide hk3
  rw [hk]
  rw [hk] at HT
  have hql := h.lt
  clear hk hk1 hk2 hk3 hk4 ha hd hl
  generalize bs l = d at *
  go_enter Tryz.func79, Tryz.ntmps79
  go_upto_region 1 with (fail)
  have u1 : Upd [] w (((w.alloc (.cells #[.string d, .pointer (some ⟨q, 0, none⟩)] 87)).alloc (.cells #[.string ⟨#[]⟩, .pointer none] 103)).alloc (.cells #[.string ⟨#[]⟩, .pointer none] 87)) := (((Upd.refl [] w).alloc _).alloc _).alloc _
  have hB := ((Blk.new w 87 #[.string d, .pointer (some ⟨q, 0, none⟩)]).alloc (.cells #[.string ⟨#[]⟩, .pointer none] 103)).alloc (.cells #[.string ⟨#[]⟩, .pointer none] 87)
  have hR := (Blk.new (w.alloc (.cells #[.string d, .pointer (some ⟨q, 0, none⟩)] 87)) 103 #[.string ⟨#[]⟩, .pointer none]).alloc (.cells #[.string ⟨#[]⟩, .pointer none] 87)
  have hT := Blk.new ((w.alloc (.cells #[.string d, .pointer (some ⟨q, 0, none⟩)] 87)).alloc (.cells #[.string ⟨#[]⟩, .pointer none] 103)) 87 #[.string ⟨#[]⟩, .pointer none]
  rw [World.size_alloc] at hR
  rw [World.size_alloc, World.size_alloc] at hT
  generalize ((w.alloc (.cells #[.string d, .pointer (some ⟨q, 0, none⟩)] 87)).alloc (.cells #[.string ⟨#[]⟩, .pointer none] 103)).alloc (.cells #[.string ⟨#[]⟩, .pointer none] 87) = w1 at *
  have b0 := hB.fst
  have b1 := hB.snd
  go_wp2_with fail
  refine (HT.out _ u1).mono ?_
  rintro e w2 ⟨p2, A2, rfl, hI2, hu2, hp2, hA2⟩
  have u2 := u1.on0 hu2
  have hB2 := hB.grow hu2
  have hR2 := hR.grow hu2
  have hT2 := hT.grow hu2
  have hs1 := u1.size
  have hTl := hT.lt
  have hs2 := hu2.size
  clear b0 b1 hB hR hT u1 hu2 HT
  go_upto_region 2 with (fail)
  obtain ⟨Y, hY⟩ : ∃ Y, w2.heap.size = Y := ⟨_, rfl⟩
  have u3 : Upd [] w (w2.alloc (.cells #[.pointer (some ⟨p2, 0, none⟩)] 101)) := u2.alloc _
  have hY3 := Blk.new w2 101 #[.pointer (some ⟨p2, 0, none⟩)]
  rw [hY] at hY3
  have hB3 := hB2.alloc (.cells #[.pointer (some ⟨p2, 0, none⟩)] 101)
  have hR3 := hR2.alloc (.cells #[.pointer (some ⟨p2, 0, none⟩)] 101)
  have hT3 := hT2.alloc (.cells #[.pointer (some ⟨p2, 0, none⟩)] 101)
  have hI3 := hI2.alloc (.cells #[.pointer (some ⟨p2, 0, none⟩)] 101)
  simp only [hY] at *
  have hs2' := hs2
  generalize w2.alloc (.cells #[.pointer (some ⟨p2, 0, none⟩)] 101) = w3 at *
  have hW : Upd [] w3 w3.drew := (Upd.refl [] w3).drew
  have u3d := u3.on0 hW
  have hY3d := hY3.grow hW
  have hB3d := hB3.grow hW
  have hR3d := hR3.grow hW
  have hT3d := hT3.grow hW
  have hI3d := hI3.grow hW
  have c1 := hB3d.snd
  have d1 := hY3d.one
  have hWe : Upd [] w3 (w3.alloc (.cells #[.pointer none] 85)).drew := ((Upd.refl [] w3).alloc _).drew
  have u3e := u3.on0 hWe
  have hY3e := hY3.grow hWe
  have hB3e := hB3.grow hWe
  have hI3e := hI3.grow hWe
  have hR3l := hT3.lt
  have hB3l := hB3.lt
  have hY3l := hY3.lt
  have hZ3e : Blk (w3.alloc (.cells #[.pointer none] 85)).drew w3.heap.size 85 #[.pointer none] := (Blk.new w3 85 #[.pointer none]).drew
  have e1 := hB3e.snd
  have f1 := hY3e.one
  clear hB2 hR2 hT2 hI2 u2
  go_region_held3 (fun w' => w'.cell? ⟨w.heap.size, 1, none⟩ = some (.pointer (some ⟨q, 0, none⟩)) ∧ w'.cell? ⟨Y, 0, none⟩ = some (.pointer (some ⟨p2, 0, none⟩)))
    (first | exact ⟨c4, d4⟩ | exact ⟨c5, d5⟩ | exact ⟨c3, d3⟩ | exact ⟨e2, f2⟩ | exact ⟨c2, d2⟩ | exact ⟨e1, f1⟩ | exact ⟨c1, d1⟩)
    (first
      | (go_at_call 111; refine (HS.out _ p4 A4 hI4 u4).mono ?_; rintro e w5 ⟨p5, A5, rfl, hI5, hu5, hp5, hA5⟩; have hZ5 := hZ4.grow hu5; have u5 := u4.on0 hu5; have U5 := U4.on0 hu5; have hB5 := hB4.grow hu5; have hY5 := hY4.grow hu5; have c3 := hB5.snd; have d3 := hY5.one; have z3 := hZ5.one; have y3 := hZ5.frozen 0; have c4 := (hB5.far (p := ⟨w3.heap.size, 0, none⟩) (show w.heap.size ≠ w3.heap.size by omega) (.pointer (some ⟨p5, 0, none⟩))).snd; have d4 := (hY5.far (p := ⟨w3.heap.size, 0, none⟩) (show Y ≠ w3.heap.size by omega) (.pointer (some ⟨p5, 0, none⟩))).one)
      | (go_at_call 112; refine (HF.out _ p2 A2 hI3e u3e).mono ?_; rintro e w4 ⟨p4, A4, rfl, hI4, hu4, hp4, hA4⟩; have hZ4 := hZ3e.grow hu4; have u4 := u3e.on0 hu4; have U4 := hWe.on0 hu4; have hB4 := hB3e.grow hu4; have hY4 := hY3e.grow hu4; have c2 := hB4.snd; have d2 := hY4.one)
      | (go_at_call 112; refine (HF.out _ p2 A2 hI3d u3d).mono ?_; rintro e w4 ⟨p4, A4, rfl, hI4, hu4, hp4, hA4⟩; have u4 := u3d.on0 hu4; have U4 := hW.on0 hu4; have hB4 := hB3d.grow hu4; have hY4 := hY3d.grow hu4; have c2 := hB4.snd; have d2 := hY4.one; have e2 := (hB4.alloc (.cells #[.pointer none] 85)).snd; have f2 := (hY4.alloc (.cells #[.pointer none] 85)).one)
      | (go_at_call 111; refine (HS.out _ p4 A4 hI4 u4).mono ?_; rintro e w5 ⟨p5, A5, rfl, hI5, hu5, hp5, hA5⟩; have u5 := u4.on0 hu5; have U5 := U4.on0 hu5; have hB5 := hB4.grow hu5; have hY5 := hY4.grow hu5; have c3 := hB5.snd; have d3 := hY5.one; have c4 := (hB5.alloc (.cells #[.pointer (some ⟨p5, 0, none⟩)] 85)).snd; have d4 := (hY5.alloc (.cells #[.pointer (some ⟨p5, 0, none⟩)] 85)).one; have c5 := (hB5.alloc (.cells #[.pointer none] 85)).snd; have d5 := (hY5.alloc (.cells #[.pointer none] 85)).one)
      | (go_at_call 111; refine (HS.out _ p4 A4 (hI4.alloc _) (u4.alloc _)).mono ?_; rintro e w5 ⟨p5, A5, rfl, hI5, hu5, hp5, hA5⟩; have u5 := (u4.alloc _).on0 hu5; have U5 := (U4.alloc _).on0 hu5; have hB5 := (hB4.alloc (.cells #[.pointer none] 85)).grow hu5; have hY5 := (hY4.alloc (.cells #[.pointer none] 85)).grow hu5; have hZ5 := (Blk.new w4 85 #[.pointer none]).grow hu5; have c3 := hB5.snd; have d3 := hY5.one; have z3 := hZ5.one; have y3 := hZ5.frozen 0; have c4 := (hB5.far (p := ⟨w4.heap.size, 0, none⟩) (show w.heap.size ≠ w4.heap.size by have := hB4.lt; omega) (.pointer (some ⟨p5, 0, none⟩))).snd; have d4 := (hY5.far (p := ⟨w4.heap.size, 0, none⟩) (show Y ≠ w4.heap.size by have := hY4.lt; omega) (.pointer (some ⟨p5, 0, none⟩))).one))
  all_goals have h3s := U4.size
  all_goals first
    | (have z4 := hZ4.lt
       have UE := U5.setCell (p := ⟨w3.heap.size, 0, none⟩) (S := []) (fun h => absurd (show w3.heap.size < w3.heap.size from h) (by omega)) (.pointer (some ⟨p5, 0, none⟩))
       have hZE := hZ5.put0' (.pointer (some ⟨p5, 0, none⟩))
       have hIE := hI5.set_far (i := 0) (u := .pointer (some ⟨p5, 0, none⟩)) hZ5 (by decide) (by omega)
       have hZs : Y < w3.heap.size := hY3l
       generalize w5.setCell ⟨w3.heap.size, 0, none⟩ (.pointer (some ⟨p5, 0, none⟩)) = wE at *
       generalize w3.heap.size = Z at hZE hZs ⊢
       have hs4 := u4.size
       have hA5s : ∀ b ∈ bof A5, w.heap.size ≤ b := fun b hb => by
         first
           | exact Nat.le_trans hs4 (hA5 b hb)
           | exact Nat.le_trans (Nat.le_trans hs4 (((Upd.refl [] w4).alloc _).size)) (hA5 b hb)
       have hp5w : w3.heap.size ≤ p5 := by first | exact Nat.le_trans h3s hp5 | omega
       have hp5s : w.heap.size ≤ p5 := by first | exact Nat.le_trans hs4 hp5 | omega)
    | (fail_if_success (have hh := hZ5)
       have UE := U5.alloc (.cells #[.pointer (some ⟨p5, 0, none⟩)] 85)
       have hZE := Blk.new w5 85 #[.pointer (some ⟨p5, 0, none⟩)]
       have hIE := hI5.alloc (.cells #[.pointer (some ⟨p5, 0, none⟩)] 85)
       have hZs : Y < w5.heap.size := Nat.lt_of_lt_of_le hY3l U5.size
       generalize w5.alloc (.cells #[.pointer (some ⟨p5, 0, none⟩)] 85) = wE at *
       generalize w5.heap.size = Z at hZE hZs ⊢
       have hs4 := u4.size
       have hA5s : ∀ b ∈ bof A5, w.heap.size ≤ b := fun b hb => by
         first
           | exact Nat.le_trans hs4 (hA5 b hb)
           | exact Nat.le_trans (Nat.le_trans hs4 (((Upd.refl [] w4).alloc _).size)) (hA5 b hb)
       have hp5w : w3.heap.size ≤ p5 := by first | exact Nat.le_trans h3s hp5 | omega
       have hp5s : w.heap.size ≤ p5 := by first | exact Nat.le_trans hs4 hp5 | omega)
    | (have hp5' : w4.heap.size + 1 ≤ p5 := by rw [← World.size_alloc w4 (.cells #[.pointer none] 85)]; exact hp5
       have UE := U5.setCell (p := ⟨w4.heap.size, 0, none⟩) (S := []) (fun h => absurd (show w4.heap.size < w3.heap.size from h) (by omega)) (.pointer (some ⟨p5, 0, none⟩))
       have hZE := hZ5.put0' (.pointer (some ⟨p5, 0, none⟩))
       have hIE := hI5.set_far (i := 0) (u := .pointer (some ⟨p5, 0, none⟩)) hZ5 (by decide) (by omega)
       have hZs : Y < w4.heap.size := Nat.lt_of_lt_of_le hY3l h3s
       generalize w5.setCell ⟨w4.heap.size, 0, none⟩ (.pointer (some ⟨p5, 0, none⟩)) = wE at *
       generalize w4.heap.size = Z at hZE hZs ⊢
       have hs4 := u4.size
       have hA5s : ∀ b ∈ bof A5, w.heap.size ≤ b := fun b hb => by
         first
           | exact Nat.le_trans hs4 (hA5 b hb)
           | exact Nat.le_trans (Nat.le_trans hs4 (((Upd.refl [] w4).alloc _).size)) (hA5 b hb)
       have hp5w : w3.heap.size ≤ p5 := by first | exact Nat.le_trans h3s hp5 | omega
       have hp5s : w.heap.size ≤ p5 := by first | exact Nat.le_trans hs4 hp5 | omega)
  all_goals (
    have uE := u3.on0 UE
    have hBE := hB3.grow UE
    have hRE := hR3.grow UE
    have hTE := hT3.grow UE
    have hYE := hY3.grow UE
    have hJE := hI3.grow UE)
  all_goals (
    clear HF HS U4 U5 c1 d1 e1 f1 hB4 hY4 hI4 hu4 u4 hB5 hY5 hI5 hu5 u5 c2 d2 c3 d3 c4 d4 u3 hB3 hR3 hT3 hI3 hY3 u3d u3e hY3d hY3e hB3d hB3e hR3d hT3d hI3d hI3e hW hWe hZ3e UE
    rw [HK3.out] at hIE
    have hY2 : w1.heap.size ≤ Y := hs2'
    have HA2 := hide (fun b hb => Nat.le_trans hs1 (hA2 b hb) : ∀ b ∈ bof A2, w.heap.size ≤ b)
    have HA5 := hide (hA5s : ∀ b ∈ bof A5, w.heap.size ≤ b)
    go_upto_region 3 with (fail))
  all_goals (
    obtain ⟨r, hr⟩ : ∃ r, w.heap.size = r := ⟨_, rfl⟩
    have hp2s : w.heap.size ≤ p2 := Nat.le_trans hs1 hp2
    have HR := hide hr
    simp only [hr] at hTl hBE hRE hTE ⊢
    clear hr
    have hRE8 : ∀ {w8 : World}, Upd [] wE w8 → Blk w8 (r + 1) 103 #[.string ⟨#[]⟩, .pointer none] := fun hu => hRE.grow hu
    have hTE8 : ∀ {w8 : World}, Upd [] wE w8 → Blk w8 (r + 1 + 1) 87 #[.string ⟨#[]⟩, .pointer none] := fun hu => hTE.grow hu
    have g6 : Upd [] wE wE.drew := (Upd.refl [] wE).drew
    have hB6 := hBE.grow g6
    have hR6 := hRE.grow g6
    have hT6 := hTE.grow g6
    have hY6 := hYE.grow g6
    have hZ6 := hZE.grow g6
    have hJ6 := hJE.grow g6
    have k1 := hB6.fst
    have k2 := hY6.one
    have k3 := hZ6.one
    have ne1 : r ≠ r + 1 := by omega
    have ne9 : p2 ≠ r + 1 := by omega
    have ne10 : p2 ≠ r + 1 + 1 := by omega
    have ne11 : p5 ≠ r + 1 := by omega
    have ne12 : p5 ≠ r + 1 + 1 := by omega
    have hJE8 : ∀ {w8 : World}, Upd [] wE w8 → IntV w8 p2 A2 k := fun hu => hJE.grow hu
    have ne2 : Y ≠ r + 1 := by omega
    have ne3 : Z ≠ r + 1 := by omega
    have ne4 : r ≠ r + 1 + 1 := by omega
    have ne5 : Y ≠ r + 1 + 1 := by omega
    have ne6 : Z ≠ r + 1 + 1 := by omega
    have ne7 : r + 1 ≠ r + 1 + 1 := by omega
    have ne8 : r + 1 + 1 ≠ r + 1 := by omega
    have v1 : ¬ (r + 1 = r + 1 + 1) := ne7
    clear hs1 hTl hs2 hs2' hR3l hB3l hY3l h3s hp5w hZs hs4 hBE hRE hTE hYE hZE hJE hql
    go_region_held3 (fun w' => w'.cell? ⟨r, 0, none⟩ = some (.string d) ∧ w'.cell? ⟨Y, 0, none⟩ = some (.pointer (some ⟨p2, 0, none⟩)) ∧ w'.cell? ⟨Z, 0, none⟩ = some (.pointer (some ⟨p5, 0, none⟩)))
      (first | exact ⟨o1, o2, o3⟩ | exact ⟨x1, x2, x3⟩ | exact ⟨n1, n2, n3⟩ | exact ⟨m1, m2, m3⟩ | exact ⟨k1, k2, k3⟩)
      (first
        | (go_at_call 113; refine (HNC.out _ p2 A2 _ hJ6).mono ?_; rintro e w7 ⟨rfl, hu7⟩; have U7 := g6.on0 hu7; have hB7 := hB6.grow hu7; have hY7 := hY6.grow hu7; have hZ7 := hZ6.grow hu7; have m1 := hB7.fst; have m2 := hY7.one; have m3 := hZ7.one)
        | (go_at_call 64; refine (HND.out _ p5 A5 _ (hIE.grow U7)).mono ?_; rintro e w8 ⟨rfl, hu8⟩; have U8 := U7.on0 hu8; have hB8 := hB7.grow hu8; have hY8 := hY7.grow hu8; have hZ8 := hZ7.grow hu8; have hR8 := hRE8 U8; have hT8 := hTE8 U8; have n1 := hB8.fst; have n2 := hY8.one; have n3 := hZ8.one;
           have r0 := hR8.fst; have r1 := hR8.snd; have r2 := hR8.frozen 0; have r3 := hR8.frozen 1; have s0 := hT8.fst; have s1 := hT8.snd; have s2 := hT8.frozen 0; have s3 := hT8.frozen 1;
           have hR9 := (hR8.put0 (.string d)).put1 (.pointer (some ⟨p2, 0, none⟩));
           have hB9 := (hB8.far (p := ⟨r + 1, 0, none⟩) ne1 (.string d)).far (p := ⟨r + 1, 1, none⟩) ne1 (.pointer (some ⟨p2, 0, none⟩));
           have hY9 := (hY8.far (p := ⟨r + 1, 0, none⟩) ne2 (.string d)).far (p := ⟨r + 1, 1, none⟩) ne2 (.pointer (some ⟨p2, 0, none⟩));
           have hZ9 := (hZ8.far (p := ⟨r + 1, 0, none⟩) ne3 (.string d)).far (p := ⟨r + 1, 1, none⟩) ne3 (.pointer (some ⟨p2, 0, none⟩));
           have hT9 := (hT8.far (p := ⟨r + 1, 0, none⟩) ne8 (.string d)).far (p := ⟨r + 1, 1, none⟩) ne8 (.pointer (some ⟨p2, 0, none⟩));
           have x1 := hB9.fst; have x2 := hY9.one; have x3 := hZ9.one;
           have s4 := hT9.fst; have s5 := hT9.snd; have s6 := hT9.frozen 0; have s7 := hT9.frozen 1;
           have o1 := ((hB9.far (p := ⟨r + 1 + 1, 0, none⟩) ne4 (.string d)).far (p := ⟨r + 1 + 1, 1, none⟩) ne4 (.pointer (some ⟨p5, 0, none⟩))).fst;
           have o2 := ((hY9.far (p := ⟨r + 1 + 1, 0, none⟩) ne5 (.string d)).far (p := ⟨r + 1 + 1, 1, none⟩) ne5 (.pointer (some ⟨p5, 0, none⟩))).one;
           have o3 := ((hZ9.far (p := ⟨r + 1 + 1, 0, none⟩) ne6 (.string d)).far (p := ⟨r + 1 + 1, 1, none⟩) ne6 (.pointer (some ⟨p5, 0, none⟩))).one)))
  all_goals (
    have hT10 := (hT9.put0 (.string d)).put1 (.pointer (some ⟨p5, 0, none⟩))
    have hR10 := (hR9.far (p := ⟨r + 1 + 1, 0, none⟩) ne7 (.string d)).far (p := ⟨r + 1 + 1, 1, none⟩) ne7 (.pointer (some ⟨p5, 0, none⟩))
    have hJ8 := hJE8 U8
    have hI8 := hIE.grow U8
    have hJ9 := (hJ8.set_far (i := 0) (u := .string d) hR8 (by decide) ne9).set_far (i := 1) (u := .pointer (some ⟨p2, 0, none⟩)) (hR8.put0 (.string d)) (by decide) ne9
    have hI9 := (hI8.set_far (i := 0) (u := .string d) hR8 (by decide) ne11).set_far (i := 1) (u := .pointer (some ⟨p2, 0, none⟩)) (hR8.put0 (.string d)) (by decide) ne11
    have hJ10 := (hJ9.set_far (i := 0) (u := .string d) hT9 (by decide) ne10).set_far (i := 1) (u := .pointer (some ⟨p5, 0, none⟩)) (hT9.put0 (.string d)) (by decide) ne10
    have hI10 := (hI9.set_far (i := 0) (u := .string d) hT9 (by decide) ne12).set_far (i := 1) (u := .pointer (some ⟨p5, 0, none⟩)) (hT9.put0 (.string d)) (by decide) ne12
    have uF := uE.on0 U8
    have hb1 : ¬ (r + 1 < w.heap.size) := by have := HR.out; omega
    have hb2 : ¬ (r + 1 + 1 < w.heap.size) := by have := HR.out; omega
    have uG := (((uF.setCell (p := ⟨r + 1, 0, none⟩) (fun h => absurd h hb1) (.string d)).setCell (p := ⟨r + 1, 1, none⟩) (fun h => absurd h hb1) (.pointer (some ⟨p2, 0, none⟩))).setCell (p := ⟨r + 1 + 1, 0, none⟩) (fun h => absurd h hb2) (.string d)).setCell (p := ⟨r + 1 + 1, 1, none⟩) (fun h => absurd h hb2) (.pointer (some ⟨p5, 0, none⟩))
    clear r0 r1 r2 r3 s0 s1 s2 s3 s4 s5 s6 s7 o1 o2 o3 x1 x2 x3 n1 n2 n3 m1 m2 m3 k1 k2 k3
    generalize (((w8.setCell ⟨r + 1, 0, none⟩ (.string d)).setCell ⟨r + 1, 1, none⟩ (.pointer (some ⟨p2, 0, none⟩))).setCell ⟨r + 1 + 1, 0, none⟩ (.string d)).setCell ⟨r + 1 + 1, 1, none⟩ (.pointer (some ⟨p5, 0, none⟩)) = wF at *
    have f1 := hR10.fst
    have f2 := hR10.snd
    have f3 := hT10.fst
    have f4 := hT10.snd
    have f5 := hR10.lt
    have f6 := hT10.lt
    go_wp2
    refine bodyPost_ret (v := .tuple #[CV d p2, CV d p5]) (by simp [results, Tryz.results79, f1, f2, f3, f4, f5, f6, go_sem]) rfl ?_
    exact ⟨p2, A2, p5, A5, rfl, hJ10, hI10, uG, hp2s, hp5s, HA2.out, HA5.out⟩)

end Go.Proofs.YtnajekpckbfcdaaGreatDoor
