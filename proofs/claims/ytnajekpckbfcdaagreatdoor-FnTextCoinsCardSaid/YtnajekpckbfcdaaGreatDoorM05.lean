/-
  nat: expNN, division by a word.
-/
import Derived.Test.YtnajekpckbfcdaaGreatDoorM03
import Derived.Defers
set_option linter.unusedVariables false
set_option linter.unusedSimpArgs false
namespace Go.Proofs.YtnajekpckbfcdaaGreatDoor
open Go.RowKit

theorem nlz_lit (v n m : Nat) (hv : v < 18446744073709551616) (h : Lib.bitLen v = n) (hn : n + m = 64) (w : World) :
    Calls Tryz.prog 215 #[.int .u64 v] w fun e w' => e = .returned (.int .u64 m) ∧ w = w' := by
  have hc := Tryz.bits_LeadingZeros (v : Int) w (by omega) (by omega)
  rw [Int.toNat_natCast, h, show (64 : Int) - (n : Int) = (m : Int) from by omega] at hc
  have HC := hide hc
  have hw : IntKind.u64.wrap (m : Int) = (m : Int) := wrapN m (by omega)
  clear hc h
  go_enter Tryz.func215, Tryz.ntmps215
  go_wp2_with fail
  refine HC.out.mono ?_
  rintro e w' ⟨rfl, rfl⟩
  go_wp2
  go_ret
  exact ⟨rfl, rfl⟩

theorem getStack_any (w : World) : Calls Tryz.prog 169 #[] w fun e w' => ∃ p, e = .returned (.pointer (some ⟨p, 0, none⟩)) ∧ Blk w' p 257 #[.pointer none] ∧ Upd [] w w' ∧ w.heap.size ≤ p := by
  go_enter Tryz.func169, Tryz.ntmps169
  go_wp2
  go_ret
  exact ⟨_, rfl, Blk.new _ _ _, (Upd.refl _ _).alloc _, Nat.le_refl _⟩

/-- Two rows of nats do not meet. -/
def Apart (A B : Option Addr) : Prop := ∀ b ∈ bof A, b ∉ bof B
theorem Apart.symm {A B : Option Addr} (h : Apart A B) : Apart B A := fun b hb ha => h b ha hb
def Fresh (n : Nat) (A : Option Addr) : Prop := ∀ b ∈ bof A, n ≤ b

theorem free_d (w : World) (u : FrameMode) (p : Addr) (hp : w.cell? p = some (.pointer none)) :
    CallsD Tryz.prog 170 #[.pointer (some p)] u w fun e u' w' => u' = u ∧ (e = .returned (.tuple #[]) ∧ w' = w) := by
  go_enter_d Tryz.func170, Tryz.ntmps170
  go_wp2
  go_end0
  exact ⟨rfl, rfl⟩

def expNN_18_v : Nat → Nat
  | 0 => 2305843009213693952
  | 1 => 4611686018427387904
  | 2 => 9223372036854775808
  | 3 => 0
  | 4 => 0
  | 5 => 0
  | _ => 0
def expNN_18_z : Nat → Nat
  | 0 => 10
  | 1 => 100
  | 2 => 10000
  | 3 => 1000000000
  | 4 => 1000000000000000000
  | _ => 0

set_option maxRecDepth 100000 in
set_option maxHeartbeats 8000000 in
theorem expNN_18 (w : World) (X Y : Option Addr) (Cx Cy N : Nat) (hNv : N = 10 ^ 18) (hX : NatS w X 1 Cx (wo 10)) (hY : NatS w Y 1 Cy (wo 18)) (hN : Nums w) :
    Calls Tryz.prog 252 #[.slice none 0 0, .pointer none, .slice X 1 Cx, .slice Y 1 Cy, .slice none 0 0, .bool false] w (NatRes w none N) := by
  have HNV := hide hNv
  clear hNv
  obtain ⟨bx, cx, rfl, hbx, hcx, hwx⟩ := hX.row (by have := hX.2.2.1; omega)
  obtain ⟨by', cy, rfl, hby, hcy, hwy⟩ := hY.row (by have := hY.2.2.1; omega)
  have ex : wo 10 = [10] := wo_one (by omega) (by omega)
  have ey : wo 18 = [18] := wo_one (by omega) (by omega)
  have cx0 := hX.cells 0 (by omega)
  have cy0 := hY.cells 0 (by omega)
  rw [ex] at cx0
  rw [ey] at cy0
  simp only [List.getD_cons_zero] at cx0 cy0
  have hax := alias_no w none (some ⟨bx, 0, none⟩) 0 0 1 Cx [] (wo 10) (NatS.nil w) hX (by simp [bof])
  have HAX := hide hax
  clear ex ey hax
  have hv0 : IntKind.u64.wrap 20752587082923245568 = 2305843009213693952 := by rw [IntKind.wrap_u64]; omega
  go_enter_defers Tryz.func252, Tryz.ntmps252
  go_wp2_with fail
  refine HAX.out.mono ?_
  rintro e w1 ⟨rfl, q, rfl⟩
  go_wp2_with fail
  have hay := alias_no (w.drewN q) none (some ⟨by', 0, none⟩) 0 0 1 Cy [] (wo 18) (NatS.nil _) (hY.drewN q) (by simp [bof])
  refine hay.mono ?_
  rintro e w1 ⟨rfl, q2, rfl⟩
  clear hay HAX
  go_wp2_with fail
  refine (getStack_any _).mono ?_
  rintro e w1 ⟨p, rfl, hp, hu1, hpw⟩
  have hu1 := hu1.undrewN
  have hX1 := hX.upd hu1 (by simp)
  have hY1 := hY.upd hu1 (by simp)
  have cx1 := (hu1.cell (p := ⟨bx, 0, none⟩) hbx.lt (by simp)).trans cx0
  have cy1 := (hu1.cell (p := ⟨by', 0, none⟩) hby.lt (by simp)).trans cy0
  go_wp2_with fail
  refine (set_any w1 none (some ⟨bx, 0, none⟩) 0 0 1 Cx 10 [] (NatS.nil _) hX1 (by omega)).mono ?_
  rintro e w2 ⟨A', L', C', rfl, hS2, hu2, hb2⟩
  have cy2 := (hu2.cell (p := ⟨by', 0, none⟩) (lt_of_cell cy1) (by simp [bof])).trans cy1
  go_wp2_with fail
  refine (nlz_lit 18 5 59 (by omega) (by decide) (by omega) _).mono ?_
  rintro e w3 ⟨rfl, rfl⟩
  have hu3 : Upd [] w w2 := hu1.trans hu2 (by simp [bof])
  have hp3 := hp.upd hu2 (by simp [bof])
  clear cx1 cy1 cy2 hX1 hY1 cx0 cy0
  go_wp2_with fail
  go_loopw [0, 15, 19, 21] (fun z v zz i wr => ∃ (j : Nat) (A : Option Addr) (L C : Nat) (A2 : Option Addr) (L2 C2 : Nat) (ws2 : List Nat), j ≤ 4 ∧ i = .int .i64 j ∧ v = .int .u64 (expNN_18_v j) ∧ z = .slice A L C ∧ zz = .slice A2 L2 C2 ∧
      NatS wr A L C (wo (expNN_18_z j)) ∧ NatS wr A2 L2 C2 ws2 ∧ Hid (Apart A2 A) ∧ Hid (Fresh w.heap.size A) ∧ Hid (Fresh w.heap.size A2) ∧ Upd [] w wr ∧ Blk wr p 257 #[.pointer none] ∧ p ∉ bof A ∧ p ∉ bof A2)
    (fun _ _ _ i _ => 4 - (intOf i).toNat)
  case atStart =>
    refine ⟨0, A', L', C', none, 0, 0, [], by omega, rfl, rfl, rfl, rfl, hS2, NatS.nil _, ?_, ?_, ?_, hu3, hp3, ?_, by simp [bof]⟩
    · show Apart _ _; intro b hb; simp [bof] at hb
    · show Fresh _ _
      intro b hb
      rcases hb2 b hb with h | h
      · simp [bof] at h
      · have := hu1.size; omega
    · show Fresh _ _; intro b hb; simp [bof] at hb
    · intro hm
      rcases hb2 p hm with h | h
      · simp [bof] at h
      · have := hp.lt; omega
  case round =>
    clear hS2 hu3 hp3 hp hu1 hu2 hb2
    obtain ⟨j, A, L, C, A2, L2, C2, ws2, hj, rfl, rfl, rfl, rfl, hS, hS2, hap, hf1, hf2, hu, hpk, hp1, hp2⟩ := hrel
    have hNr := hN.upd hu (by simp)
    have hXr := hX.upd hu (by simp)
    have hxA : Apart A (some ⟨bx, 0, none⟩) := by
      intro b hb hm
      have h1 := hf1.out b hb
      simp [bof] at hm
      subst hm
      have := hbx.lt
      omega
    have hxA2 : Apart A2 (some ⟨bx, 0, none⟩) := by
      intro b hb hm
      have h1 := hf2.out b hb
      simp [bof] at hm
      subst hm
      have := hbx.lt
      omega
    have HXA := hide hxA
    have HXA2 := hide hxA2
    clear hxA hxA2
    have hsz := hu.size
    rcases (by omega : j = 0 ∨ j = 1 ∨ j = 2 ∨ j = 3 ∨ j = 4) with rfl | rfl | rfl | rfl | rfl
    · have ev : expNN_18_v 0 = 2305843009213693952 := rfl
      have ez : expNN_18_z 0 = 10 := rfl
      rw [ez] at hS
      have hL11 : L ≤ 11 := by
        rw [← hS.1]
        exact wo_len_le (by decide)
      have hbit : bits .and .u64 2305843009213693952 9223372036854775808 = 0 := by kernel_rfl
      have hshl : IntKind.u64.wrap 4611686018427387904 = 4611686018427387904 := by rw [IntKind.wrap_u64]; omega
      go_wp2_with fail
      refine (sqr_any wr A2 A (.pointer (some ⟨p, 0, none⟩)) L2 C2 L C 10 ws2 hS2 hS hL11 hap.out hNr).mono ?_
      rintro e w3 ⟨A3, L3, C3, rfl, hS3, hu3, hb3⟩
      have hSo := hS.upd hu3 (fun b hb hm => hap.out b hm hb)
      have hpo := hpk.upd hu3 hp2
      have hX3 := hXr.upd hu3 (fun b hb hm => HXA2.out b hm hb)
      have hap3 : Apart A A3 := by
        intro b hb hm
        rcases hb3 b hm with h | h
        · exact hap.out b h hb
        · have := hS.lt b hb; omega
      have hf3 : Fresh w.heap.size A3 := by
        intro b hb
        rcases hb3 b hb with h | h
        · exact hf2.out b h
        · omega
      have hp33 : p ∉ bof A3 := by
        intro hm
        rcases hb3 p hm with h | h
        · exact hp2 h
        · have := hpk.lt; omega
      have hu03 : Upd [] w w3 := hu.trans hu3 (fun k hk hlt => absurd (hf2.out k hk) (by omega))
      have HA3 := hide hap3
      have HF3 := hide hf3
      clear hap3 hf3
      have em : (10 : Nat) * 10 = 100 := by omega
      rw [em] at hS3
      clear em ez
      go_wp2
      go_roundw
      case rel => exact ⟨1, A3, L3, C3, A, L, C, _, by omega, by go_num, rfl, rfl, rfl, hS3, hSo, HA3.out, HF3.out, hf1, hu03, hpo, hp33, hp1⟩
      case measure => simp [intOf]
    · have ev : expNN_18_v 1 = 4611686018427387904 := rfl
      have ez : expNN_18_z 1 = 100 := rfl
      rw [ez] at hS
      have hL11 : L ≤ 11 := by
        rw [← hS.1]
        exact wo_len_le (by decide)
      have hbit : bits .and .u64 4611686018427387904 9223372036854775808 = 0 := by kernel_rfl
      have hshl : IntKind.u64.wrap 9223372036854775808 = 9223372036854775808 := by rw [IntKind.wrap_u64]; omega
      go_wp2_with fail
      refine (sqr_any wr A2 A (.pointer (some ⟨p, 0, none⟩)) L2 C2 L C 100 ws2 hS2 hS hL11 hap.out hNr).mono ?_
      rintro e w3 ⟨A3, L3, C3, rfl, hS3, hu3, hb3⟩
      have hSo := hS.upd hu3 (fun b hb hm => hap.out b hm hb)
      have hpo := hpk.upd hu3 hp2
      have hX3 := hXr.upd hu3 (fun b hb hm => HXA2.out b hm hb)
      have hap3 : Apart A A3 := by
        intro b hb hm
        rcases hb3 b hm with h | h
        · exact hap.out b h hb
        · have := hS.lt b hb; omega
      have hf3 : Fresh w.heap.size A3 := by
        intro b hb
        rcases hb3 b hb with h | h
        · exact hf2.out b h
        · omega
      have hp33 : p ∉ bof A3 := by
        intro hm
        rcases hb3 p hm with h | h
        · exact hp2 h
        · have := hpk.lt; omega
      have hu03 : Upd [] w w3 := hu.trans hu3 (fun k hk hlt => absurd (hf2.out k hk) (by omega))
      have HA3 := hide hap3
      have HF3 := hide hf3
      clear hap3 hf3
      have em : (100 : Nat) * 100 = 10000 := by omega
      rw [em] at hS3
      clear em ez
      go_wp2
      go_roundw
      case rel => exact ⟨2, A3, L3, C3, A, L, C, _, by omega, by go_num, rfl, rfl, rfl, hS3, hSo, HA3.out, HF3.out, hf1, hu03, hpo, hp33, hp1⟩
      case measure => simp [intOf]
    · have ev : expNN_18_v 2 = 9223372036854775808 := rfl
      have ez : expNN_18_z 2 = 10000 := rfl
      rw [ez] at hS
      have hL11 : L ≤ 11 := by
        rw [← hS.1]
        exact wo_len_le (by decide)
      have hbit : bits .and .u64 9223372036854775808 9223372036854775808 = 9223372036854775808 := by kernel_rfl
      have hshl : IntKind.u64.wrap 18446744073709551616 = 0 := by rw [IntKind.wrap_u64]; omega
      go_wp2_with fail
      refine (sqr_any wr A2 A (.pointer (some ⟨p, 0, none⟩)) L2 C2 L C 10000 ws2 hS2 hS hL11 hap.out hNr).mono ?_
      rintro e w3 ⟨A3, L3, C3, rfl, hS3, hu3, hb3⟩
      have hSo := hS.upd hu3 (fun b hb hm => hap.out b hm hb)
      have hpo := hpk.upd hu3 hp2
      have hX3 := hXr.upd hu3 (fun b hb hm => HXA2.out b hm hb)
      have hap3 : Apart A A3 := by
        intro b hb hm
        rcases hb3 b hm with h | h
        · exact hap.out b h hb
        · have := hS.lt b hb; omega
      have hf3 : Fresh w.heap.size A3 := by
        intro b hb
        rcases hb3 b hb with h | h
        · exact hf2.out b h
        · omega
      have hp33 : p ∉ bof A3 := by
        intro hm
        rcases hb3 p hm with h | h
        · exact hp2 h
        · have := hpk.lt; omega
      have hu03 : Upd [] w w3 := hu.trans hu3 (fun k hk hlt => absurd (hf2.out k hk) (by omega))
      have HA3 := hide hap3
      have HF3 := hide hf3
      clear hap3 hf3
      have em : (10000 : Nat) * 10000 = 100000000 := by omega
      rw [em] at hS3
      clear em ez
      have hL3 : L3 ≤ 1000 := by
        rw [← hS3.1]
        have := wo_len_le (k := 11) (show 100000000 < 18446744073709551616 ^ 11 by decide)
        omega
      go_wp2_with fail
      refine (mul_any w3 A A3 (some ⟨bx, 0, none⟩) (.pointer (some ⟨p, 0, none⟩)) L C L3 C3 1 Cx 100000000 10 _ hSo hS3 hX3 hL3 (by omega) (.inr (by omega))).mono ?_
      rintro e w4 ⟨A4, L4, C4, rfl, hS4, hu4, hb4⟩
      have hSo4 := hS3.upd hu4 (fun b hb hm => HA3.out b hm hb)
      have hpo4 := hpo.upd hu4 hp1
      have hap4 : Apart A3 A4 := by
        intro b hb hm
        rcases hb4 b hm with h | h
        · exact HA3.out b h hb
        · have := hS3.lt b hb; omega
      have hf4 : Fresh w.heap.size A4 := by
        intro b hb
        rcases hb4 b hb with h | h
        · exact hf1.out b h
        · have := hu3.size; omega
      have hp4 : p ∉ bof A4 := by
        intro hm
        rcases hb4 p hm with h | h
        · exact hp1 h
        · have := hpo.lt; omega
      have hu04 : Upd [] w w4 := hu03.trans hu4 (fun k hk hlt => absurd (hf1.out k hk) (by omega))
      have HA4 := hide hap4
      have HF4 := hide hf4
      clear hap4 hf4
      have em : (100000000 : Nat) * 10 = 1000000000 := by omega
      rw [em] at hS4
      clear em
      go_wp2
      go_roundw
      case rel => exact ⟨3, A4, L4, C4, A3, L3, C3, _, by omega, by go_num, rfl, rfl, rfl, hS4, hSo4, HA4.out, HF4.out, HF3, hu04, hpo4, hp4, hp33⟩
      case measure => simp [intOf]
    · have ev : expNN_18_v 3 = 0 := rfl
      have ez : expNN_18_z 3 = 1000000000 := rfl
      rw [ez] at hS
      have hL11 : L ≤ 11 := by
        rw [← hS.1]
        exact wo_len_le (by decide)
      have hbit : bits .and .u64 0 9223372036854775808 = 0 := by kernel_rfl
      have hshl : IntKind.u64.wrap 0 = 0 := by rw [IntKind.wrap_u64]; omega
      go_wp2_with fail
      refine (sqr_any wr A2 A (.pointer (some ⟨p, 0, none⟩)) L2 C2 L C 1000000000 ws2 hS2 hS hL11 hap.out hNr).mono ?_
      rintro e w3 ⟨A3, L3, C3, rfl, hS3, hu3, hb3⟩
      have hSo := hS.upd hu3 (fun b hb hm => hap.out b hm hb)
      have hpo := hpk.upd hu3 hp2
      have hX3 := hXr.upd hu3 (fun b hb hm => HXA2.out b hm hb)
      have hap3 : Apart A A3 := by
        intro b hb hm
        rcases hb3 b hm with h | h
        · exact hap.out b h hb
        · have := hS.lt b hb; omega
      have hf3 : Fresh w.heap.size A3 := by
        intro b hb
        rcases hb3 b hb with h | h
        · exact hf2.out b h
        · omega
      have hp33 : p ∉ bof A3 := by
        intro hm
        rcases hb3 p hm with h | h
        · exact hp2 h
        · have := hpk.lt; omega
      have hu03 : Upd [] w w3 := hu.trans hu3 (fun k hk hlt => absurd (hf2.out k hk) (by omega))
      have HA3 := hide hap3
      have HF3 := hide hf3
      clear hap3 hf3
      have em : (1000000000 : Nat) * 1000000000 = 1000000000000000000 := by omega
      rw [em] at hS3
      clear em ez
      go_wp2
      go_roundw
      case rel => exact ⟨4, A3, L3, C3, A, L, C, _, by omega, by go_num, rfl, rfl, rfl, hS3, hSo, HA3.out, HF3.out, hf1, hu03, hpo, hp33, hp1⟩
      case measure => simp [intOf]
    · have ez : expNN_18_z 4 = N := HNV.out.symm
      rw [ez] at hS
      clear ez
      obtain ⟨g, cs, rfl, hb, hcs, hws⟩ := hS.row (by
        have h1 := hS.1
        have h2 := hS.2.2.1
        have h3 := wo_len_pos (n := N) (by rw [HNV.out]; decide)
        omega)
      have hnb := norm_blk wr g L C cs (wo N) hS.1 hb hws (wo_lt N) hcs hS.2.2.1 (by
        have h1 := hS.1
        have h2 := hS.2.2.1
        have h3 := wo_len_pos (n := N) (by rw [HNV.out]; decide)
        omega) hS.2.2.2.1
      rw [val_wo] at hnb
      have HNB := hide hnb
      clear hnb
      have hpc := hpk.at_ (i := 0) rfl
      go_wp2_with fail
      refine wp_loop_rounds 1 ?_
      rw [rounds_succ]
      go_wp2_with fail
      refine HNB.out.mono ?_
      rintro e w4 ⟨k, rfl, hS9, rfl⟩
      go_wp2
      refine leaves_cons (f := 170) (args := #[.pointer (some ⟨p, 0, none⟩)]) (by simp) (by simp [go_sem]) ?_
      refine (free_d _ .returning _ hpc).mono ?_
      rintro e u' w'' ⟨rfl, rfl, rfl⟩
      refine ⟨_, results_tmp rfl _ _ _, ?_⟩
      refine ⟨_, k, C, rfl, hS9, hu, fun b hb2 => .inr ?_⟩
      exact hf1.out b hb2

def expNN_256_v : Nat → Nat
  | 0 => 0
  | 1 => 0
  | 2 => 0
  | 3 => 0
  | 4 => 0
  | 5 => 0
  | 6 => 0
  | 7 => 0
  | 8 => 0
  | 9 => 0
  | _ => 0
def expNN_256_z : Nat → Nat
  | 0 => 2
  | 1 => 4
  | 2 => 16
  | 3 => 256
  | 4 => 65536
  | 5 => 4294967296
  | 6 => 18446744073709551616
  | 7 => 340282366920938463463374607431768211456
  | 8 => 115792089237316195423570985008687907853269984665640564039457584007913129639936
  | _ => 0

set_option maxRecDepth 100000 in
set_option maxHeartbeats 8000000 in
theorem expNN_256 (w : World) (X Y : Option Addr) (Cx Cy N : Nat) (hNv : N = 2 ^ 256) (hX : NatS w X 1 Cx (wo 2)) (hY : NatS w Y 1 Cy (wo 256)) (hN : Nums w) :
    Calls Tryz.prog 252 #[.slice none 0 0, .pointer none, .slice X 1 Cx, .slice Y 1 Cy, .slice none 0 0, .bool false] w (NatRes w none N) := by
  have HNV := hide hNv
  clear hNv
  obtain ⟨bx, cx, rfl, hbx, hcx, hwx⟩ := hX.row (by have := hX.2.2.1; omega)
  obtain ⟨by', cy, rfl, hby, hcy, hwy⟩ := hY.row (by have := hY.2.2.1; omega)
  have ex : wo 2 = [2] := wo_one (by omega) (by omega)
  have ey : wo 256 = [256] := wo_one (by omega) (by omega)
  have cx0 := hX.cells 0 (by omega)
  have cy0 := hY.cells 0 (by omega)
  rw [ex] at cx0
  rw [ey] at cy0
  simp only [List.getD_cons_zero] at cx0 cy0
  have hax := alias_no w none (some ⟨bx, 0, none⟩) 0 0 1 Cx [] (wo 2) (NatS.nil w) hX (by simp [bof])
  have HAX := hide hax
  clear ex ey hax
  have hv0 : IntKind.u64.wrap 18446744073709551616 = 0 := by rw [IntKind.wrap_u64]; omega
  go_enter_defers Tryz.func252, Tryz.ntmps252
  go_wp2_with fail
  refine HAX.out.mono ?_
  rintro e w1 ⟨rfl, q, rfl⟩
  go_wp2_with fail
  have hay := alias_no (w.drewN q) none (some ⟨by', 0, none⟩) 0 0 1 Cy [] (wo 256) (NatS.nil _) (hY.drewN q) (by simp [bof])
  refine hay.mono ?_
  rintro e w1 ⟨rfl, q2, rfl⟩
  clear hay HAX
  go_wp2_with fail
  refine (getStack_any _).mono ?_
  rintro e w1 ⟨p, rfl, hp, hu1, hpw⟩
  have hu1 := hu1.undrewN
  have hX1 := hX.upd hu1 (by simp)
  have hY1 := hY.upd hu1 (by simp)
  have cx1 := (hu1.cell (p := ⟨bx, 0, none⟩) hbx.lt (by simp)).trans cx0
  have cy1 := (hu1.cell (p := ⟨by', 0, none⟩) hby.lt (by simp)).trans cy0
  go_wp2_with fail
  refine (set_any w1 none (some ⟨bx, 0, none⟩) 0 0 1 Cx 2 [] (NatS.nil _) hX1 (by omega)).mono ?_
  rintro e w2 ⟨A', L', C', rfl, hS2, hu2, hb2⟩
  have cy2 := (hu2.cell (p := ⟨by', 0, none⟩) (lt_of_cell cy1) (by simp [bof])).trans cy1
  go_wp2_with fail
  refine (nlz_lit 256 9 55 (by omega) (by decide) (by omega) _).mono ?_
  rintro e w3 ⟨rfl, rfl⟩
  have hu3 : Upd [] w w2 := hu1.trans hu2 (by simp [bof])
  have hp3 := hp.upd hu2 (by simp [bof])
  clear cx1 cy1 cy2 hX1 hY1 cx0 cy0
  go_wp2_with fail
  go_loopw [0, 15, 19, 21] (fun z v zz i wr => ∃ (j : Nat) (A : Option Addr) (L C : Nat) (A2 : Option Addr) (L2 C2 : Nat) (ws2 : List Nat), j ≤ 8 ∧ i = .int .i64 j ∧ v = .int .u64 (expNN_256_v j) ∧ z = .slice A L C ∧ zz = .slice A2 L2 C2 ∧
      NatS wr A L C (wo (expNN_256_z j)) ∧ NatS wr A2 L2 C2 ws2 ∧ Hid (Apart A2 A) ∧ Hid (Fresh w.heap.size A) ∧ Hid (Fresh w.heap.size A2) ∧ Upd [] w wr ∧ Blk wr p 257 #[.pointer none] ∧ p ∉ bof A ∧ p ∉ bof A2)
    (fun _ _ _ i _ => 8 - (intOf i).toNat)
  case atStart =>
    refine ⟨0, A', L', C', none, 0, 0, [], by omega, rfl, rfl, rfl, rfl, hS2, NatS.nil _, ?_, ?_, ?_, hu3, hp3, ?_, by simp [bof]⟩
    · show Apart _ _; intro b hb; simp [bof] at hb
    · show Fresh _ _
      intro b hb
      rcases hb2 b hb with h | h
      · simp [bof] at h
      · have := hu1.size; omega
    · show Fresh _ _; intro b hb; simp [bof] at hb
    · intro hm
      rcases hb2 p hm with h | h
      · simp [bof] at h
      · have := hp.lt; omega
  case round =>
    clear hS2 hu3 hp3 hp hu1 hu2 hb2
    obtain ⟨j, A, L, C, A2, L2, C2, ws2, hj, rfl, rfl, rfl, rfl, hS, hS2, hap, hf1, hf2, hu, hpk, hp1, hp2⟩ := hrel
    have hNr := hN.upd hu (by simp)
    have hXr := hX.upd hu (by simp)
    have hxA : Apart A (some ⟨bx, 0, none⟩) := by
      intro b hb hm
      have h1 := hf1.out b hb
      simp [bof] at hm
      subst hm
      have := hbx.lt
      omega
    have hxA2 : Apart A2 (some ⟨bx, 0, none⟩) := by
      intro b hb hm
      have h1 := hf2.out b hb
      simp [bof] at hm
      subst hm
      have := hbx.lt
      omega
    have HXA := hide hxA
    have HXA2 := hide hxA2
    clear hxA hxA2
    have hsz := hu.size
    rcases (by omega : j = 0 ∨ j = 1 ∨ j = 2 ∨ j = 3 ∨ j = 4 ∨ j = 5 ∨ j = 6 ∨ j = 7 ∨ j = 8) with rfl | rfl | rfl | rfl | rfl | rfl | rfl | rfl | rfl
    · have ev : expNN_256_v 0 = 0 := rfl
      have ez : expNN_256_z 0 = 2 := rfl
      rw [ez] at hS
      have hL11 : L ≤ 11 := by
        rw [← hS.1]
        exact wo_len_le (by decide)
      have hbit : bits .and .u64 0 9223372036854775808 = 0 := by kernel_rfl
      have hshl : IntKind.u64.wrap 0 = 0 := by rw [IntKind.wrap_u64]; omega
      go_wp2_with fail
      refine (sqr_any wr A2 A (.pointer (some ⟨p, 0, none⟩)) L2 C2 L C 2 ws2 hS2 hS hL11 hap.out hNr).mono ?_
      rintro e w3 ⟨A3, L3, C3, rfl, hS3, hu3, hb3⟩
      have hSo := hS.upd hu3 (fun b hb hm => hap.out b hm hb)
      have hpo := hpk.upd hu3 hp2
      have hX3 := hXr.upd hu3 (fun b hb hm => HXA2.out b hm hb)
      have hap3 : Apart A A3 := by
        intro b hb hm
        rcases hb3 b hm with h | h
        · exact hap.out b h hb
        · have := hS.lt b hb; omega
      have hf3 : Fresh w.heap.size A3 := by
        intro b hb
        rcases hb3 b hb with h | h
        · exact hf2.out b h
        · omega
      have hp33 : p ∉ bof A3 := by
        intro hm
        rcases hb3 p hm with h | h
        · exact hp2 h
        · have := hpk.lt; omega
      have hu03 : Upd [] w w3 := hu.trans hu3 (fun k hk hlt => absurd (hf2.out k hk) (by omega))
      have HA3 := hide hap3
      have HF3 := hide hf3
      clear hap3 hf3
      have em : (2 : Nat) * 2 = 4 := by omega
      rw [em] at hS3
      clear em ez
      go_wp2
      go_roundw
      case rel => exact ⟨1, A3, L3, C3, A, L, C, _, by omega, by go_num, rfl, rfl, rfl, hS3, hSo, HA3.out, HF3.out, hf1, hu03, hpo, hp33, hp1⟩
      case measure => simp [intOf]
    · have ev : expNN_256_v 1 = 0 := rfl
      have ez : expNN_256_z 1 = 4 := rfl
      rw [ez] at hS
      have hL11 : L ≤ 11 := by
        rw [← hS.1]
        exact wo_len_le (by decide)
      have hbit : bits .and .u64 0 9223372036854775808 = 0 := by kernel_rfl
      have hshl : IntKind.u64.wrap 0 = 0 := by rw [IntKind.wrap_u64]; omega
      go_wp2_with fail
      refine (sqr_any wr A2 A (.pointer (some ⟨p, 0, none⟩)) L2 C2 L C 4 ws2 hS2 hS hL11 hap.out hNr).mono ?_
      rintro e w3 ⟨A3, L3, C3, rfl, hS3, hu3, hb3⟩
      have hSo := hS.upd hu3 (fun b hb hm => hap.out b hm hb)
      have hpo := hpk.upd hu3 hp2
      have hX3 := hXr.upd hu3 (fun b hb hm => HXA2.out b hm hb)
      have hap3 : Apart A A3 := by
        intro b hb hm
        rcases hb3 b hm with h | h
        · exact hap.out b h hb
        · have := hS.lt b hb; omega
      have hf3 : Fresh w.heap.size A3 := by
        intro b hb
        rcases hb3 b hb with h | h
        · exact hf2.out b h
        · omega
      have hp33 : p ∉ bof A3 := by
        intro hm
        rcases hb3 p hm with h | h
        · exact hp2 h
        · have := hpk.lt; omega
      have hu03 : Upd [] w w3 := hu.trans hu3 (fun k hk hlt => absurd (hf2.out k hk) (by omega))
      have HA3 := hide hap3
      have HF3 := hide hf3
      clear hap3 hf3
      have em : (4 : Nat) * 4 = 16 := by omega
      rw [em] at hS3
      clear em ez
      go_wp2
      go_roundw
      case rel => exact ⟨2, A3, L3, C3, A, L, C, _, by omega, by go_num, rfl, rfl, rfl, hS3, hSo, HA3.out, HF3.out, hf1, hu03, hpo, hp33, hp1⟩
      case measure => simp [intOf]
    · have ev : expNN_256_v 2 = 0 := rfl
      have ez : expNN_256_z 2 = 16 := rfl
      rw [ez] at hS
      have hL11 : L ≤ 11 := by
        rw [← hS.1]
        exact wo_len_le (by decide)
      have hbit : bits .and .u64 0 9223372036854775808 = 0 := by kernel_rfl
      have hshl : IntKind.u64.wrap 0 = 0 := by rw [IntKind.wrap_u64]; omega
      go_wp2_with fail
      refine (sqr_any wr A2 A (.pointer (some ⟨p, 0, none⟩)) L2 C2 L C 16 ws2 hS2 hS hL11 hap.out hNr).mono ?_
      rintro e w3 ⟨A3, L3, C3, rfl, hS3, hu3, hb3⟩
      have hSo := hS.upd hu3 (fun b hb hm => hap.out b hm hb)
      have hpo := hpk.upd hu3 hp2
      have hX3 := hXr.upd hu3 (fun b hb hm => HXA2.out b hm hb)
      have hap3 : Apart A A3 := by
        intro b hb hm
        rcases hb3 b hm with h | h
        · exact hap.out b h hb
        · have := hS.lt b hb; omega
      have hf3 : Fresh w.heap.size A3 := by
        intro b hb
        rcases hb3 b hb with h | h
        · exact hf2.out b h
        · omega
      have hp33 : p ∉ bof A3 := by
        intro hm
        rcases hb3 p hm with h | h
        · exact hp2 h
        · have := hpk.lt; omega
      have hu03 : Upd [] w w3 := hu.trans hu3 (fun k hk hlt => absurd (hf2.out k hk) (by omega))
      have HA3 := hide hap3
      have HF3 := hide hf3
      clear hap3 hf3
      have em : (16 : Nat) * 16 = 256 := by omega
      rw [em] at hS3
      clear em ez
      go_wp2
      go_roundw
      case rel => exact ⟨3, A3, L3, C3, A, L, C, _, by omega, by go_num, rfl, rfl, rfl, hS3, hSo, HA3.out, HF3.out, hf1, hu03, hpo, hp33, hp1⟩
      case measure => simp [intOf]
    · have ev : expNN_256_v 3 = 0 := rfl
      have ez : expNN_256_z 3 = 256 := rfl
      rw [ez] at hS
      have hL11 : L ≤ 11 := by
        rw [← hS.1]
        exact wo_len_le (by decide)
      have hbit : bits .and .u64 0 9223372036854775808 = 0 := by kernel_rfl
      have hshl : IntKind.u64.wrap 0 = 0 := by rw [IntKind.wrap_u64]; omega
      go_wp2_with fail
      refine (sqr_any wr A2 A (.pointer (some ⟨p, 0, none⟩)) L2 C2 L C 256 ws2 hS2 hS hL11 hap.out hNr).mono ?_
      rintro e w3 ⟨A3, L3, C3, rfl, hS3, hu3, hb3⟩
      have hSo := hS.upd hu3 (fun b hb hm => hap.out b hm hb)
      have hpo := hpk.upd hu3 hp2
      have hX3 := hXr.upd hu3 (fun b hb hm => HXA2.out b hm hb)
      have hap3 : Apart A A3 := by
        intro b hb hm
        rcases hb3 b hm with h | h
        · exact hap.out b h hb
        · have := hS.lt b hb; omega
      have hf3 : Fresh w.heap.size A3 := by
        intro b hb
        rcases hb3 b hb with h | h
        · exact hf2.out b h
        · omega
      have hp33 : p ∉ bof A3 := by
        intro hm
        rcases hb3 p hm with h | h
        · exact hp2 h
        · have := hpk.lt; omega
      have hu03 : Upd [] w w3 := hu.trans hu3 (fun k hk hlt => absurd (hf2.out k hk) (by omega))
      have HA3 := hide hap3
      have HF3 := hide hf3
      clear hap3 hf3
      have em : (256 : Nat) * 256 = 65536 := by omega
      rw [em] at hS3
      clear em ez
      go_wp2
      go_roundw
      case rel => exact ⟨4, A3, L3, C3, A, L, C, _, by omega, by go_num, rfl, rfl, rfl, hS3, hSo, HA3.out, HF3.out, hf1, hu03, hpo, hp33, hp1⟩
      case measure => simp [intOf]
    · have ev : expNN_256_v 4 = 0 := rfl
      have ez : expNN_256_z 4 = 65536 := rfl
      rw [ez] at hS
      have hL11 : L ≤ 11 := by
        rw [← hS.1]
        exact wo_len_le (by decide)
      have hbit : bits .and .u64 0 9223372036854775808 = 0 := by kernel_rfl
      have hshl : IntKind.u64.wrap 0 = 0 := by rw [IntKind.wrap_u64]; omega
      go_wp2_with fail
      refine (sqr_any wr A2 A (.pointer (some ⟨p, 0, none⟩)) L2 C2 L C 65536 ws2 hS2 hS hL11 hap.out hNr).mono ?_
      rintro e w3 ⟨A3, L3, C3, rfl, hS3, hu3, hb3⟩
      have hSo := hS.upd hu3 (fun b hb hm => hap.out b hm hb)
      have hpo := hpk.upd hu3 hp2
      have hX3 := hXr.upd hu3 (fun b hb hm => HXA2.out b hm hb)
      have hap3 : Apart A A3 := by
        intro b hb hm
        rcases hb3 b hm with h | h
        · exact hap.out b h hb
        · have := hS.lt b hb; omega
      have hf3 : Fresh w.heap.size A3 := by
        intro b hb
        rcases hb3 b hb with h | h
        · exact hf2.out b h
        · omega
      have hp33 : p ∉ bof A3 := by
        intro hm
        rcases hb3 p hm with h | h
        · exact hp2 h
        · have := hpk.lt; omega
      have hu03 : Upd [] w w3 := hu.trans hu3 (fun k hk hlt => absurd (hf2.out k hk) (by omega))
      have HA3 := hide hap3
      have HF3 := hide hf3
      clear hap3 hf3
      have em : (65536 : Nat) * 65536 = 4294967296 := by omega
      rw [em] at hS3
      clear em ez
      go_wp2
      go_roundw
      case rel => exact ⟨5, A3, L3, C3, A, L, C, _, by omega, by go_num, rfl, rfl, rfl, hS3, hSo, HA3.out, HF3.out, hf1, hu03, hpo, hp33, hp1⟩
      case measure => simp [intOf]
    · have ev : expNN_256_v 5 = 0 := rfl
      have ez : expNN_256_z 5 = 4294967296 := rfl
      rw [ez] at hS
      have hL11 : L ≤ 11 := by
        rw [← hS.1]
        exact wo_len_le (by decide)
      have hbit : bits .and .u64 0 9223372036854775808 = 0 := by kernel_rfl
      have hshl : IntKind.u64.wrap 0 = 0 := by rw [IntKind.wrap_u64]; omega
      go_wp2_with fail
      refine (sqr_any wr A2 A (.pointer (some ⟨p, 0, none⟩)) L2 C2 L C 4294967296 ws2 hS2 hS hL11 hap.out hNr).mono ?_
      rintro e w3 ⟨A3, L3, C3, rfl, hS3, hu3, hb3⟩
      have hSo := hS.upd hu3 (fun b hb hm => hap.out b hm hb)
      have hpo := hpk.upd hu3 hp2
      have hX3 := hXr.upd hu3 (fun b hb hm => HXA2.out b hm hb)
      have hap3 : Apart A A3 := by
        intro b hb hm
        rcases hb3 b hm with h | h
        · exact hap.out b h hb
        · have := hS.lt b hb; omega
      have hf3 : Fresh w.heap.size A3 := by
        intro b hb
        rcases hb3 b hb with h | h
        · exact hf2.out b h
        · omega
      have hp33 : p ∉ bof A3 := by
        intro hm
        rcases hb3 p hm with h | h
        · exact hp2 h
        · have := hpk.lt; omega
      have hu03 : Upd [] w w3 := hu.trans hu3 (fun k hk hlt => absurd (hf2.out k hk) (by omega))
      have HA3 := hide hap3
      have HF3 := hide hf3
      clear hap3 hf3
      have em : (4294967296 : Nat) * 4294967296 = 18446744073709551616 := by omega
      rw [em] at hS3
      clear em ez
      go_wp2
      go_roundw
      case rel => exact ⟨6, A3, L3, C3, A, L, C, _, by omega, by go_num, rfl, rfl, rfl, hS3, hSo, HA3.out, HF3.out, hf1, hu03, hpo, hp33, hp1⟩
      case measure => simp [intOf]
    · have ev : expNN_256_v 6 = 0 := rfl
      have ez : expNN_256_z 6 = 18446744073709551616 := rfl
      rw [ez] at hS
      have hL11 : L ≤ 11 := by
        rw [← hS.1]
        exact wo_len_le (by decide)
      have hbit : bits .and .u64 0 9223372036854775808 = 0 := by kernel_rfl
      have hshl : IntKind.u64.wrap 0 = 0 := by rw [IntKind.wrap_u64]; omega
      go_wp2_with fail
      refine (sqr_any wr A2 A (.pointer (some ⟨p, 0, none⟩)) L2 C2 L C 18446744073709551616 ws2 hS2 hS hL11 hap.out hNr).mono ?_
      rintro e w3 ⟨A3, L3, C3, rfl, hS3, hu3, hb3⟩
      have hSo := hS.upd hu3 (fun b hb hm => hap.out b hm hb)
      have hpo := hpk.upd hu3 hp2
      have hX3 := hXr.upd hu3 (fun b hb hm => HXA2.out b hm hb)
      have hap3 : Apart A A3 := by
        intro b hb hm
        rcases hb3 b hm with h | h
        · exact hap.out b h hb
        · have := hS.lt b hb; omega
      have hf3 : Fresh w.heap.size A3 := by
        intro b hb
        rcases hb3 b hb with h | h
        · exact hf2.out b h
        · omega
      have hp33 : p ∉ bof A3 := by
        intro hm
        rcases hb3 p hm with h | h
        · exact hp2 h
        · have := hpk.lt; omega
      have hu03 : Upd [] w w3 := hu.trans hu3 (fun k hk hlt => absurd (hf2.out k hk) (by omega))
      have HA3 := hide hap3
      have HF3 := hide hf3
      clear hap3 hf3
      have em : (18446744073709551616 : Nat) * 18446744073709551616 = 340282366920938463463374607431768211456 := by omega
      rw [em] at hS3
      clear em ez
      go_wp2
      go_roundw
      case rel => exact ⟨7, A3, L3, C3, A, L, C, _, by omega, by go_num, rfl, rfl, rfl, hS3, hSo, HA3.out, HF3.out, hf1, hu03, hpo, hp33, hp1⟩
      case measure => simp [intOf]
    · have ev : expNN_256_v 7 = 0 := rfl
      have ez : expNN_256_z 7 = 340282366920938463463374607431768211456 := rfl
      rw [ez] at hS
      have hL11 : L ≤ 11 := by
        rw [← hS.1]
        exact wo_len_le (by decide)
      have hbit : bits .and .u64 0 9223372036854775808 = 0 := by kernel_rfl
      have hshl : IntKind.u64.wrap 0 = 0 := by rw [IntKind.wrap_u64]; omega
      go_wp2_with fail
      refine (sqr_any wr A2 A (.pointer (some ⟨p, 0, none⟩)) L2 C2 L C 340282366920938463463374607431768211456 ws2 hS2 hS hL11 hap.out hNr).mono ?_
      rintro e w3 ⟨A3, L3, C3, rfl, hS3, hu3, hb3⟩
      have hSo := hS.upd hu3 (fun b hb hm => hap.out b hm hb)
      have hpo := hpk.upd hu3 hp2
      have hX3 := hXr.upd hu3 (fun b hb hm => HXA2.out b hm hb)
      have hap3 : Apart A A3 := by
        intro b hb hm
        rcases hb3 b hm with h | h
        · exact hap.out b h hb
        · have := hS.lt b hb; omega
      have hf3 : Fresh w.heap.size A3 := by
        intro b hb
        rcases hb3 b hb with h | h
        · exact hf2.out b h
        · omega
      have hp33 : p ∉ bof A3 := by
        intro hm
        rcases hb3 p hm with h | h
        · exact hp2 h
        · have := hpk.lt; omega
      have hu03 : Upd [] w w3 := hu.trans hu3 (fun k hk hlt => absurd (hf2.out k hk) (by omega))
      have HA3 := hide hap3
      have HF3 := hide hf3
      clear hap3 hf3
      have em : (340282366920938463463374607431768211456 : Nat) * 340282366920938463463374607431768211456 = 115792089237316195423570985008687907853269984665640564039457584007913129639936 := by omega
      rw [em] at hS3
      clear em ez
      go_wp2
      go_roundw
      case rel => exact ⟨8, A3, L3, C3, A, L, C, _, by omega, by go_num, rfl, rfl, rfl, hS3, hSo, HA3.out, HF3.out, hf1, hu03, hpo, hp33, hp1⟩
      case measure => simp [intOf]
    · have ez : expNN_256_z 8 = N := HNV.out.symm
      rw [ez] at hS
      clear ez
      obtain ⟨g, cs, rfl, hb, hcs, hws⟩ := hS.row (by
        have h1 := hS.1
        have h2 := hS.2.2.1
        have h3 := wo_len_pos (n := N) (by rw [HNV.out]; decide)
        omega)
      have hnb := norm_blk wr g L C cs (wo N) hS.1 hb hws (wo_lt N) hcs hS.2.2.1 (by
        have h1 := hS.1
        have h2 := hS.2.2.1
        have h3 := wo_len_pos (n := N) (by rw [HNV.out]; decide)
        omega) hS.2.2.2.1
      rw [val_wo] at hnb
      have HNB := hide hnb
      clear hnb
      have hpc := hpk.at_ (i := 0) rfl
      go_wp2_with fail
      refine wp_loop_rounds 1 ?_
      rw [rounds_succ]
      go_wp2_with fail
      refine HNB.out.mono ?_
      rintro e w4 ⟨k, rfl, hS9, rfl⟩
      go_wp2
      refine leaves_cons (f := 170) (args := #[.pointer (some ⟨p, 0, none⟩)]) (by simp) (by simp [go_sem]) ?_
      refine (free_d _ .returning _ hpc).mono ?_
      rintro e u' w'' ⟨rfl, rfl, rfl⟩
      refine ⟨_, results_tmp rfl _ _ _, ?_⟩
      refine ⟨_, k, C, rfl, hS9, hu, fun b hb2 => .inr ?_⟩
      exact hf1.out b hb2

end Go.Proofs.YtnajekpckbfcdaaGreatDoor

namespace Go.Proofs.YtnajekpckbfcdaaGreatDoor
open Go.RowKit

theorem lz64_lit (v n m : Nat) (hv : v < 18446744073709551616) (h : Lib.bitLen v = n) (hn : n + m = 64) (w : World) :
    Calls Tryz.prog 297 #[.int .u64 v] w fun e w' => e = .returned (.int .i64 m) ∧ w = w' := by
  have hc := Tryz.bits_LeadingZeros64 (v : Int) w (by omega) (by omega)
  rw [Int.toNat_natCast, h, show (64 : Int) - (n : Int) = (m : Int) from by omega] at hc
  exact hc.mono fun _ _ ⟨a, b⟩ => ⟨a, b.symm⟩

set_option maxRecDepth 100000 in
theorem div64_18 (w : World) : Calls Tryz.prog 283 #[.int .u64 2446744073709551615, .int .u64 18446744073709551615, .int .u64 16000000000000000000] w fun e w' => e = .returned (.tuple #[.int .u64 2820903858849102350, .int .u64 7374607431768211455]) ∧ w = w' := by
  have b0 : bits .and .u64 16000000000000000000 4294967295 = 1983905792 := by kernel_rfl
  have b1 : bits .or .u64 2446744073709551615 0 = 2446744073709551615 := by kernel_rfl
  have b2 : bits .and .u64 18446744073709551615 4294967295 = 4294967295 := by kernel_rfl
  have f0 : IntKind.u64.wrap (10508685778264337589248983040) = 9925933574429605888 := by rw [IntKind.wrap_u64]; omega
  have f1 : IntKind.u64.wrap (10508685776000000000000000000) = 7661595985180622848 := by rw [IntKind.wrap_u64]; omega
  have f2 : IntKind.u64.wrap (9725255911374607427473244160) = 6539226654646992896 := by rw [IntKind.wrap_u64]; omega
  have f3 : IntKind.u64.wrap (9725255904000000000000000000) = 17611363300883300352 := by rw [IntKind.wrap_u64]; omega
  have f4 : IntKind.u64.wrap (-11072136641941340161) = 7374607431768211455 := by rw [IntKind.wrap_u64]; omega
  go_enter Tryz.func283, Tryz.ntmps283
  go_wp2_with fail
  refine (lz64_lit 16000000000000000000 64 0 (by omega) (by decide) (by omega) _).mono ?_
  rintro e w1 ⟨rfl, rfl⟩
  go_wp2_with fail
  refine wp_loop_rounds 1 ?_
  rw [rounds_succ]
  go_wp2_with fail
  go_wp2_with fail
  refine wp_loop_rounds 1 ?_
  rw [rounds_succ]
  go_wp2_with fail
  go_wp2
  go_ret2
  exact ⟨rfl, rfl⟩

set_option maxRecDepth 100000 in
theorem div64_19 (w : World) : Calls Tryz.prog 283 #[.int .u64 8446744073709551615, .int .u64 18446744073709551615, .int .u64 10000000000000000000] w fun e w' => e = .returned (.tuple #[.int .u64 15581492618384294730, .int .u64 3374607431768211455]) ∧ w = w' := by
  have b0 : bits .and .u64 10000000000000000000 4294967295 = 2313682944 := by kernel_rfl
  have b1 : bits .or .u64 8446744073709551615 0 = 8446744073709551615 := by kernel_rfl
  have b2 : bits .and .u64 18446744073709551615 4294967295 = 4294967295 := by kernel_rfl
  have f0 : IntKind.u64.wrap (36278489554264337589248983040) = 8509551491621584896 := by rw [IntKind.wrap_u64]; omega
  have f1 : IntKind.u64.wrap (36278489550000000000000000000) = 4245213902372601856 := by rw [IntKind.wrap_u64]; omega
  have f2 : IntKind.u64.wrap (18315190503374607427473244160) = 12216013984947503104 := by rw [IntKind.wrap_u64]; omega
  have f3 : IntKind.u64.wrap (18315190500000000000000000000) = 8841406557474258944 := by rw [IntKind.wrap_u64]; omega
  go_enter Tryz.func283, Tryz.ntmps283
  go_wp2_with fail
  refine (lz64_lit 10000000000000000000 64 0 (by omega) (by decide) (by omega) _).mono ?_
  rintro e w1 ⟨rfl, rfl⟩
  go_wp2_with fail
  refine wp_loop_rounds 2 ?_
  rw [rounds_succ]
  go_wp2_with fail
  rw [rounds_succ]
  go_wp2_with fail
  go_wp2_with fail
  refine wp_loop_rounds 1 ?_
  rw [rounds_succ]
  go_wp2_with fail
  go_wp2
  go_ret2
  exact ⟨rfl, rfl⟩

end Go.Proofs.YtnajekpckbfcdaaGreatDoor

namespace Go.Proofs.YtnajekpckbfcdaaGreatDoor
open Go.RowKit

theorem or_low (a b : Nat) (ha : a < 1152921504606846976) (hb : b < 16) : bits .or .u64 ((a : Int) * 16) (b : Int) = ((a * 16 + b : Nat) : Int) := by
  have h1 := u64_or_nat (a * 16) b (by omega) (by omega)
  have h2 : a * 16 ||| b = a * 16 + b := by
    have := Nat.two_pow_add_eq_or_of_lt (i := 4) (b := b) (by omega) a
    rw [show 2 ^ 4 = 16 from rfl, Nat.mul_comm 16 a] at this
    exact this.symm
  rw [h2] at h1
  rw [← h1]
  rfl

theorem bitsDiv_18 (w : World) : Calls Tryz.prog 253 #[.int .u64 2446744073709551615, .int .u64 18446744073709551615, .int .u64 16000000000000000000] w fun e w' => e = .returned (.tuple #[.int .u64 2820903858849102350, .int .u64 7374607431768211455]) ∧ w = w' := by
  go_enter Tryz.func253, Tryz.ntmps253
  go_wp2_with fail
  refine (div64_18 _).mono ?_
  rintro e w1 ⟨rfl, rfl⟩
  go_wp2
  go_ret2
  exact ⟨rfl, rfl⟩

/-- What the estimate is good for: one step up, or two, at most. -/
theorem core_18 (X1 X0 t1 t0 s c qq c2 p1 p0 r0 b r1 b2 : Nat) (h1 : X1 < 16000000000000000000) (h0 : X0 < 18446744073709551616) (e1 : t0 + 18446744073709551616 * t1 = 2820903858849102350 * X1) (l1 : t0 < 18446744073709551616) (e2 : s + 18446744073709551616 * c = t0 + X0 + 0) (l2 : s < 18446744073709551616)
    (e3 : qq + 18446744073709551616 * c2 = t1 + X1 + c) (l3 : qq < 18446744073709551616) (e4 : p0 + 18446744073709551616 * p1 = 16000000000000000000 * qq) (l4 : p0 < 18446744073709551616) (e5 : r0 + p0 + 0 = X0 + 18446744073709551616 * b) (l5 : r0 < 18446744073709551616) (l6 : b ≤ 1) (e6 : r1 + p1 + b = X1 + 18446744073709551616 * b2) (l7 : r1 < 18446744073709551616) (l8 : b2 ≤ 1) :
    X1 * 18446744073709551616 + X0 = 16000000000000000000 * qq + (r0 + 18446744073709551616 * r1) ∧ r0 + 18446744073709551616 * r1 < 18446744073709551616 + 16000000000000000000 ∧ r1 ≤ 1 := by
  have i1 : 21267647932558653966 * X1 + X0 = s + 18446744073709551616 * (qq + 18446744073709551616 * c2) := by omega
  clear e1 e2 e3 l1
  have i2 : c2 = 0 := by omega
  subst i2
  have i3 : 16000000000000000000 * qq ≤ X1 * 18446744073709551616 + X0 := by omega
  have i4 : X1 * 18446744073709551616 + X0 < 16000000000000000000 * qq + (18446744073709551616 + 16000000000000000000) := by omega
  clear i1
  have i5 : r0 + 18446744073709551616 * r1 + 16000000000000000000 * qq = X1 * 18446744073709551616 + X0 + 340282366920938463463374607431768211456 * b2 := by omega
  clear e4 e5 e6
  have i6 : b2 = 0 := by omega
  subst i6
  refine ⟨by omega, by omega, by omega⟩

theorem recip_18 (w : World) : Calls Tryz.prog 254 #[.int .u64 1000000000000000000] w fun e w' => e = .returned (.int .u64 2820903858849102350) ∧ w = w' := by
  have b1 : bits .xor .u64 IntKind.u64.max 16000000000000000000 = 2446744073709551615 := by kernel_rfl
  go_enter Tryz.func254, Tryz.ntmps254
  go_wp2_with fail
  refine (nlz_lit 1000000000000000000 60 4 (by omega) (by decide) (by omega) _).mono ?_
  rintro e w1 ⟨rfl, rfl⟩
  go_wp2_with fail
  refine (bitsDiv_18 _).mono ?_
  rintro e w1 ⟨rfl, rfl⟩
  go_wp2
  go_ret
  exact ⟨rfl, rfl⟩

set_option maxRecDepth 100000 in
set_option maxHeartbeats 2000000 in
theorem divWW_18 (x1 x0 : Nat) (h1 : x1 < 1000000000000000000) (h0 : x0 < 18446744073709551616) (w : World) :
    Calls Tryz.prog 255 #[.int .u64 x1, .int .u64 x0, .int .u64 1000000000000000000, .int .u64 2820903858849102350] w
      (Pair64 (fun q r => x1 * 18446744073709551616 + x0 = q * 1000000000000000000 + r ∧ r < 1000000000000000000 ∧ q < 18446744073709551616) w) := by
  obtain ⟨X1, hX1⟩ : ∃ X1, X1 = x1 * 16 + x0 / 1152921504606846976 := ⟨_, rfl⟩
  obtain ⟨X0, hX0⟩ : ∃ X0, X0 = x0 * 16 % 18446744073709551616 := ⟨_, rfl⟩
  have o1 : bits .or .u64 ((x1 : Int) * 16) ((x0 : Int) / 1152921504606846976) = (X1 : Int) := by
    have := or_low x1 (x0 / 1152921504606846976) (by omega) (by omega)
    rw [← hX1] at this
    rw [← this]
    rfl
  have o2 : IntKind.u64.wrap ((x0 : Int) * 16) = (X0 : Int) := by rw [IntKind.wrap_u64]; omega
  have hXX : X1 * 18446744073709551616 + X0 = 16 * (x1 * 18446744073709551616 + x0) := by omega
  have g1 : X1 < 16000000000000000000 := by omega
  have g0 : X0 < 18446744073709551616 := by omega
  have HXX := hide hXX
  have HX1 := hide hX1
  clear hXX hX1 hX0
  go_enter Tryz.func255, Tryz.ntmps255
  go_wp2_with fail
  refine (nlz_lit 1000000000000000000 60 4 (by omega) (by decide) (by omega) _).mono ?_
  rintro e w1 ⟨rfl, rfl⟩
  go_wp2_with fail
  refine (bMul_any 2820903858849102350 X1 (by omega) (by omega) _).mono ?_
  rintro e w1 ⟨t1, t0, rfl, rfl, e1, l1⟩
  have k1 : t1 < 18446744073709551616 := by omega
  have E1 := hide e1
  clear e1
  go_wp2_with fail
  refine (bAdd_any t0 X0 0 (by omega) _).mono ?_
  rintro e w1 ⟨s, c, rfl, rfl, e2, l2⟩
  have k2 : c ≤ 1 := by omega
  have E2 := hide e2
  clear e2
  go_wp2_with fail
  refine (bAdd_any t1 X1 c k2 _).mono ?_
  rintro e w1 ⟨qq, c2, rfl, rfl, e3, l3⟩
  have E3 := hide e3
  clear e3
  go_wp2_with fail
  refine (bMul_any 16000000000000000000 qq (by omega) (by omega) _).mono ?_
  rintro e w1 ⟨p1, p0, rfl, rfl, e4, l4⟩
  have k4 : p1 < 18446744073709551616 := by omega
  have E4 := hide e4
  clear e4
  go_wp2_with fail
  refine (bSub_any X0 p0 0 g0 l4 (by omega) _).mono ?_
  rintro e w1 ⟨r0, b, rfl, rfl, e5, l5, l6⟩
  have E5 := hide e5
  clear e5
  go_wp2_with fail
  refine (bSub_any X1 p1 b (by omega) k4 l6 _).mono ?_
  rintro e w1 ⟨r1, b2, rfl, rfl, e6, l7, l8⟩
  obtain ⟨f1, f2, f3⟩ := core_18 X1 X0 t1 t0 s c qq c2 p1 p0 r0 b r1 b2 g1 g0 E1.out l1 E2.out l2 E3.out l3 E4.out l4 E5.out l5 l6 e6 l7 l8
  have F1 := hide f1
  have F2 := hide f2
  clear f1 f2 e6 E1 E2 E3 E4 E5
  rcases (by omega : r1 = 0 ∨ r1 = 1) with rfl | rfl
  · have F1 := F1.out
    by_cases hr : 16000000000000000000 ≤ r0
    · have hq : qq + 1 < 18446744073709551616 := by have := HXX.out; omega
      obtain ⟨r2, hr2⟩ : ∃ r2, r0 = r2 + 16000000000000000000 := ⟨r0 - 16000000000000000000, by omega⟩
      have u1 : IntKind.u64.wrap ((qq : Int) + 1) = ((qq + 1 : Nat) : Int) := by rw [IntKind.wrap_u64]; omega
      have u2 : IntKind.u64.wrap ((r0 : Int) - 16000000000000000000) = (r2 : Int) := by rw [IntKind.wrap_u64]; omega
      have u3 : (16000000000000000000 : Int) ≤ (r0 : Int) := by omega
      have fin : x1 * 18446744073709551616 + x0 = (qq + 1) * 1000000000000000000 + r2 / 16 ∧ r2 / 16 < 1000000000000000000 := by have := HXX.out; have := F2.out; omega
      have FIN := hide fin
      have HR2 := hide hr2
      clear fin hr2 F1
      go_wp2
      go_ret2
      exact ⟨qq + 1, r2 / 16, by first | rfl | (simp; done) | (simp; omega), rfl, FIN.out.1, FIN.out.2, hq⟩
    · have u3 : decide ((16000000000000000000 : Int) ≤ (r0 : Int)) = false := decide_eq_false (by omega)
      have fin : x1 * 18446744073709551616 + x0 = qq * 1000000000000000000 + r0 / 16 ∧ r0 / 16 < 1000000000000000000 := by have := HXX.out; omega
      have FIN := hide fin
      clear fin F1 hr
      go_wp2
      go_ret2
      exact ⟨qq, r0 / 16, by first | rfl | (simp; done) | (simp; omega), rfl, FIN.out.1, FIN.out.2, l3⟩
  · have F1 := F1.out
    have F2' := F2.out
    have hq : qq + 1 < 18446744073709551616 := by have := HXX.out; omega
    obtain ⟨r2, hr2⟩ : ∃ r2, r0 + 18446744073709551616 = r2 + 16000000000000000000 := ⟨r0 + 18446744073709551616 - 16000000000000000000, by omega⟩
    have u1 : IntKind.u64.wrap ((qq : Int) + 1) = ((qq + 1 : Nat) : Int) := by rw [IntKind.wrap_u64]; omega
    have u2 : IntKind.u64.wrap ((r0 : Int) - 16000000000000000000) = (r2 : Int) := by rw [IntKind.wrap_u64]; omega
    by_cases hr : 16000000000000000000 ≤ r2
    · have hq2 : qq + 2 < 18446744073709551616 := by have := HXX.out; omega
      obtain ⟨r3, hr3⟩ : ∃ r3, r2 = r3 + 16000000000000000000 := ⟨r2 - 16000000000000000000, by omega⟩
      have u4 : IntKind.u64.wrap (((qq + 1 : Nat) : Int) + 1) = ((qq + 2 : Nat) : Int) := by rw [IntKind.wrap_u64]; omega
      have u4b : IntKind.u64.wrap ((qq : Int) + 1 + 1) = ((qq + 2 : Nat) : Int) := by rw [IntKind.wrap_u64]; omega
      have u5 : IntKind.u64.wrap ((r2 : Int) - 16000000000000000000) = (r3 : Int) := by rw [IntKind.wrap_u64]; omega
      have u3 : (16000000000000000000 : Int) ≤ (r2 : Int) := by omega
      have fin : x1 * 18446744073709551616 + x0 = (qq + 2) * 1000000000000000000 + r3 / 16 ∧ r3 / 16 < 1000000000000000000 := by have := HXX.out; omega
      have FIN := hide fin
      clear fin hr2 hr3 F1 F2'
      go_wp2
      go_ret2
      exact ⟨qq + 2, r3 / 16, by first | rfl | (simp; done) | (simp; omega), rfl, FIN.out.1, FIN.out.2, hq2⟩
    · have u3 : decide ((16000000000000000000 : Int) ≤ (r2 : Int)) = false := decide_eq_false (by omega)
      have fin : x1 * 18446744073709551616 + x0 = (qq + 1) * 1000000000000000000 + r2 / 16 ∧ r2 / 16 < 1000000000000000000 := by have := HXX.out; omega
      have FIN := hide fin
      clear fin hr hr2 F1 F2'
      go_wp2
      go_ret2
      exact ⟨qq + 1, r2 / 16, by first | rfl | (simp; done) | (simp; omega), rfl, FIN.out.1, FIN.out.2, hq⟩

theorem bitsDiv_19 (w : World) : Calls Tryz.prog 253 #[.int .u64 8446744073709551615, .int .u64 18446744073709551615, .int .u64 10000000000000000000] w fun e w' => e = .returned (.tuple #[.int .u64 15581492618384294730, .int .u64 3374607431768211455]) ∧ w = w' := by
  go_enter Tryz.func253, Tryz.ntmps253
  go_wp2_with fail
  refine (div64_19 _).mono ?_
  rintro e w1 ⟨rfl, rfl⟩
  go_wp2
  go_ret2
  exact ⟨rfl, rfl⟩

/-- What the estimate is good for: one step up, or two, at most. -/
theorem core_19 (X1 X0 t1 t0 s c qq c2 p1 p0 r0 b r1 b2 : Nat) (h1 : X1 < 10000000000000000000) (h0 : X0 < 18446744073709551616) (e1 : t0 + 18446744073709551616 * t1 = 15581492618384294730 * X1) (l1 : t0 < 18446744073709551616) (e2 : s + 18446744073709551616 * c = t0 + X0 + 0) (l2 : s < 18446744073709551616)
    (e3 : qq + 18446744073709551616 * c2 = t1 + X1 + c) (l3 : qq < 18446744073709551616) (e4 : p0 + 18446744073709551616 * p1 = 10000000000000000000 * qq) (l4 : p0 < 18446744073709551616) (e5 : r0 + p0 + 0 = X0 + 18446744073709551616 * b) (l5 : r0 < 18446744073709551616) (l6 : b ≤ 1) (e6 : r1 + p1 + b = X1 + 18446744073709551616 * b2) (l7 : r1 < 18446744073709551616) (l8 : b2 ≤ 1) :
    X1 * 18446744073709551616 + X0 = 10000000000000000000 * qq + (r0 + 18446744073709551616 * r1) ∧ r0 + 18446744073709551616 * r1 < 18446744073709551616 + 10000000000000000000 ∧ r1 ≤ 1 := by
  have i1 : 34028236692093846346 * X1 + X0 = s + 18446744073709551616 * (qq + 18446744073709551616 * c2) := by omega
  clear e1 e2 e3 l1
  have i2 : c2 = 0 := by omega
  subst i2
  have i3 : 10000000000000000000 * qq ≤ X1 * 18446744073709551616 + X0 := by omega
  have i4 : X1 * 18446744073709551616 + X0 < 10000000000000000000 * qq + (18446744073709551616 + 10000000000000000000) := by omega
  clear i1
  have i5 : r0 + 18446744073709551616 * r1 + 10000000000000000000 * qq = X1 * 18446744073709551616 + X0 + 340282366920938463463374607431768211456 * b2 := by omega
  clear e4 e5 e6
  have i6 : b2 = 0 := by omega
  subst i6
  refine ⟨by omega, by omega, by omega⟩

theorem recip_19 (w : World) : Calls Tryz.prog 254 #[.int .u64 10000000000000000000] w fun e w' => e = .returned (.int .u64 15581492618384294730) ∧ w = w' := by
  have b1 : bits .xor .u64 IntKind.u64.max 10000000000000000000 = 8446744073709551615 := by kernel_rfl
  go_enter Tryz.func254, Tryz.ntmps254
  go_wp2_with fail
  refine (nlz_lit 10000000000000000000 64 0 (by omega) (by decide) (by omega) _).mono ?_
  rintro e w1 ⟨rfl, rfl⟩
  go_wp2_with fail
  refine (bitsDiv_19 _).mono ?_
  rintro e w1 ⟨rfl, rfl⟩
  go_wp2
  go_ret
  exact ⟨rfl, rfl⟩

set_option maxRecDepth 100000 in
set_option maxHeartbeats 2000000 in
theorem divWW_19 (x1 x0 : Nat) (h1 : x1 < 10000000000000000000) (h0 : x0 < 18446744073709551616) (w : World) :
    Calls Tryz.prog 255 #[.int .u64 x1, .int .u64 x0, .int .u64 10000000000000000000, .int .u64 15581492618384294730] w
      (Pair64 (fun q r => x1 * 18446744073709551616 + x0 = q * 10000000000000000000 + r ∧ r < 10000000000000000000 ∧ q < 18446744073709551616) w) := by
  obtain ⟨X1, hX1⟩ : ∃ X1, X1 = x1 := ⟨_, rfl⟩
  obtain ⟨X0, hX0⟩ : ∃ X0, X0 = x0 := ⟨_, rfl⟩
  subst hX1
  subst hX0
  have hXX : X1 * 18446744073709551616 + X0 = 1 * (X1 * 18446744073709551616 + X0) := by omega
  have g1 : X1 < 10000000000000000000 := by omega
  have g0 : X0 < 18446744073709551616 := by omega
  have HXX := hide hXX
  
  clear hXX 
  go_enter Tryz.func255, Tryz.ntmps255
  go_wp2_with fail
  refine (nlz_lit 10000000000000000000 64 0 (by omega) (by decide) (by omega) _).mono ?_
  rintro e w1 ⟨rfl, rfl⟩
  go_wp2_with fail
  refine (bMul_any 15581492618384294730 X1 (by omega) (by omega) _).mono ?_
  rintro e w1 ⟨t1, t0, rfl, rfl, e1, l1⟩
  have k1 : t1 < 18446744073709551616 := by omega
  have E1 := hide e1
  clear e1
  go_wp2_with fail
  refine (bAdd_any t0 X0 0 (by omega) _).mono ?_
  rintro e w1 ⟨s, c, rfl, rfl, e2, l2⟩
  have k2 : c ≤ 1 := by omega
  have E2 := hide e2
  clear e2
  go_wp2_with fail
  refine (bAdd_any t1 X1 c k2 _).mono ?_
  rintro e w1 ⟨qq, c2, rfl, rfl, e3, l3⟩
  have E3 := hide e3
  clear e3
  go_wp2_with fail
  refine (bMul_any 10000000000000000000 qq (by omega) (by omega) _).mono ?_
  rintro e w1 ⟨p1, p0, rfl, rfl, e4, l4⟩
  have k4 : p1 < 18446744073709551616 := by omega
  have E4 := hide e4
  clear e4
  go_wp2_with fail
  refine (bSub_any X0 p0 0 g0 l4 (by omega) _).mono ?_
  rintro e w1 ⟨r0, b, rfl, rfl, e5, l5, l6⟩
  have E5 := hide e5
  clear e5
  go_wp2_with fail
  refine (bSub_any X1 p1 b (by omega) k4 l6 _).mono ?_
  rintro e w1 ⟨r1, b2, rfl, rfl, e6, l7, l8⟩
  obtain ⟨f1, f2, f3⟩ := core_19 X1 X0 t1 t0 s c qq c2 p1 p0 r0 b r1 b2 g1 g0 E1.out l1 E2.out l2 E3.out l3 E4.out l4 E5.out l5 l6 e6 l7 l8
  have F1 := hide f1
  have F2 := hide f2
  clear f1 f2 e6 E1 E2 E3 E4 E5
  rcases (by omega : r1 = 0 ∨ r1 = 1) with rfl | rfl
  · have F1 := F1.out
    by_cases hr : 10000000000000000000 ≤ r0
    · have hq : qq + 1 < 18446744073709551616 := by have := HXX.out; omega
      obtain ⟨r2, hr2⟩ : ∃ r2, r0 = r2 + 10000000000000000000 := ⟨r0 - 10000000000000000000, by omega⟩
      have u1 : IntKind.u64.wrap ((qq : Int) + 1) = ((qq + 1 : Nat) : Int) := by rw [IntKind.wrap_u64]; omega
      have u2 : IntKind.u64.wrap ((r0 : Int) - 10000000000000000000) = (r2 : Int) := by rw [IntKind.wrap_u64]; omega
      have u3 : (10000000000000000000 : Int) ≤ (r0 : Int) := by omega
      have fin : X1 * 18446744073709551616 + X0 = (qq + 1) * 10000000000000000000 + r2 / 1 ∧ r2 / 1 < 10000000000000000000 := by have := HXX.out; have := F2.out; omega
      have FIN := hide fin
      have HR2 := hide hr2
      clear fin hr2 F1
      go_wp2
      go_ret2
      exact ⟨qq + 1, r2 / 1, by first | rfl | (simp; done) | (simp; omega), rfl, FIN.out.1, FIN.out.2, hq⟩
    · have u3 : decide ((10000000000000000000 : Int) ≤ (r0 : Int)) = false := decide_eq_false (by omega)
      have fin : X1 * 18446744073709551616 + X0 = qq * 10000000000000000000 + r0 / 1 ∧ r0 / 1 < 10000000000000000000 := by have := HXX.out; omega
      have FIN := hide fin
      clear fin F1 hr
      go_wp2
      go_ret2
      exact ⟨qq, r0 / 1, by first | rfl | (simp; done) | (simp; omega), rfl, FIN.out.1, FIN.out.2, l3⟩
  · have F1 := F1.out
    have F2' := F2.out
    have hq : qq + 1 < 18446744073709551616 := by have := HXX.out; omega
    obtain ⟨r2, hr2⟩ : ∃ r2, r0 + 18446744073709551616 = r2 + 10000000000000000000 := ⟨r0 + 18446744073709551616 - 10000000000000000000, by omega⟩
    have u1 : IntKind.u64.wrap ((qq : Int) + 1) = ((qq + 1 : Nat) : Int) := by rw [IntKind.wrap_u64]; omega
    have u2 : IntKind.u64.wrap ((r0 : Int) - 10000000000000000000) = (r2 : Int) := by rw [IntKind.wrap_u64]; omega
    by_cases hr : 10000000000000000000 ≤ r2
    · have hq2 : qq + 2 < 18446744073709551616 := by have := HXX.out; omega
      obtain ⟨r3, hr3⟩ : ∃ r3, r2 = r3 + 10000000000000000000 := ⟨r2 - 10000000000000000000, by omega⟩
      have u4 : IntKind.u64.wrap (((qq + 1 : Nat) : Int) + 1) = ((qq + 2 : Nat) : Int) := by rw [IntKind.wrap_u64]; omega
      have u4b : IntKind.u64.wrap ((qq : Int) + 1 + 1) = ((qq + 2 : Nat) : Int) := by rw [IntKind.wrap_u64]; omega
      have u5 : IntKind.u64.wrap ((r2 : Int) - 10000000000000000000) = (r3 : Int) := by rw [IntKind.wrap_u64]; omega
      have u3 : (10000000000000000000 : Int) ≤ (r2 : Int) := by omega
      have fin : X1 * 18446744073709551616 + X0 = (qq + 2) * 10000000000000000000 + r3 / 1 ∧ r3 / 1 < 10000000000000000000 := by have := HXX.out; omega
      have FIN := hide fin
      clear fin hr2 hr3 F1 F2'
      go_wp2
      go_ret2
      exact ⟨qq + 2, r3 / 1, by first | rfl | (simp; done) | (simp; omega), rfl, FIN.out.1, FIN.out.2, hq2⟩
    · have u3 : decide ((10000000000000000000 : Int) ≤ (r2 : Int)) = false := decide_eq_false (by omega)
      have fin : X1 * 18446744073709551616 + X0 = (qq + 1) * 10000000000000000000 + r2 / 1 ∧ r2 / 1 < 10000000000000000000 := by have := HXX.out; omega
      have FIN := hide fin
      clear fin hr hr2 F1 F2'
      go_wp2
      go_ret2
      exact ⟨qq + 1, r2 / 1, by first | rfl | (simp; done) | (simp; omega), rfl, FIN.out.1, FIN.out.2, hq⟩

end Go.Proofs.YtnajekpckbfcdaaGreatDoor

namespace Go.Proofs.YtnajekpckbfcdaaGreatDoor
open Go.RowKit

theorem div0_64 (lo y : Nat) (hlo : lo < 18446744073709551616) (hy : y < 18446744073709551616) (h0 : 0 < y) (w : World) :
    Calls Tryz.prog 283 #[.int .u64 0, .int .u64 lo, .int .u64 y] w fun e w' => e = .returned (.tuple #[.int .u64 (lo / y : Nat), .int .u64 (lo % y : Nat)]) ∧ ∃ n, w' = w.drewN n := by
  have t1 : ((y : Int) == 0) = false := beq_eq_false_iff_ne.2 (by omega)
  have t2 : decide ((y : Int) ≤ 0) = false := decide_eq_false (by omega)
  have t2b : ¬ (y : Int) ≤ 0 := by omega
  have t3 : ¬ (y : Int) = 0 := by omega
  have t4 : ¬ y = 0 := by omega
  have w1 : IntKind.u64.wrap ((lo / y : Nat) : Int) = ((lo / y : Nat) : Int) := wrapN _ (Nat.lt_of_le_of_lt (Nat.div_le_self _ _) hlo)
  have w2 : IntKind.u64.wrap ((lo % y : Nat) : Int) = ((lo % y : Nat) : Int) := wrapN _ (Nat.lt_of_lt_of_le (Nat.mod_lt _ h0) (by omega))
  have w3 : IntKind.u64.wrap ((lo : Int) / (y : Int)) = (lo : Int) / (y : Int) := w1
  have w4 : IntKind.u64.wrap ((lo : Int) % (y : Int)) = (lo : Int) % (y : Int) := w2
  clear w1 w2
  have e1 : (lo : Int).tdiv (y : Int) = ((lo / y : Nat) : Int) := rfl
  have e2 : (lo : Int).tmod (y : Int) = ((lo % y : Nat) : Int) := rfl
  go_enter Tryz.func283, Tryz.ntmps283
  go_wp2_with fail
  go_quiet (fail)
  go_wp2
  go_ret2
  refine ⟨?_, _, rfl⟩
  first | rfl | simp

theorem bitsDiv0 (lo y : Nat) (hlo : lo < 18446744073709551616) (hy : y < 18446744073709551616) (h0 : 0 < y) (w : World) :
    Calls Tryz.prog 253 #[.int .u64 0, .int .u64 lo, .int .u64 y] w fun e w' => e = .returned (.tuple #[.int .u64 (lo / y : Nat), .int .u64 (lo % y : Nat)]) ∧ ∃ n, w' = w.drewN n := by
  have w1 : IntKind.u64.wrap ((lo / y : Nat) : Int) = ((lo / y : Nat) : Int) := wrapN _ (Nat.lt_of_le_of_lt (Nat.div_le_self _ _) hlo)
  have w2 : IntKind.u64.wrap ((lo % y : Nat) : Int) = ((lo % y : Nat) : Int) := wrapN _ (Nat.lt_of_lt_of_le (Nat.mod_lt _ h0) (by omega))
  obtain ⟨q, hq⟩ : ∃ q, lo / y = q := ⟨_, rfl⟩
  obtain ⟨r, hr⟩ : ∃ r, lo % y = r := ⟨_, rfl⟩
  have hc := div0_64 lo y hlo hy h0 w
  rw [hq] at hc w1 ⊢
  rw [hr] at hc w2 ⊢
  have HC := hide hc
  clear hc hq hr
  go_enter Tryz.func253, Tryz.ntmps253
  go_wp2_with fail
  refine HC.out.mono ?_
  rintro e w1 ⟨rfl, n, rfl⟩
  go_wp2
  go_ret2
  exact ⟨by first | rfl | (simp; done), _, rfl⟩

set_option maxRecDepth 100000 in
set_option maxHeartbeats 4000000 in
theorem divWVW_18 (w : World) (zb xb L zc xc : Nat) (cs : Array Value) (xs : List Nat) (hL : L ≤ 1000) (h1 : 1 ≤ L) (hl : xs.length = L) (hxs : ∀ d ∈ xs, d < 18446744073709551616) (hz : Blk w zb 161 cs) (hs : L ≤ cs.size) (hzc : L ≤ zc) (hxc : L ≤ xc) (hzc2 : zc ≤ 100000) (hxc2 : xc ≤ 100000)
    (hx : ∀ i, i < L → w.cell? ⟨xb, i, none⟩ = some (W64 (xs.getD i 0))) :
    Calls Tryz.prog 213 #[.slice (some ⟨zb, 0, none⟩) L zc, .int .u64 0, .slice (some ⟨xb, 0, none⟩) L xc, .int .u64 1000000000000000000] w fun e w' =>
      ∃ (r : Nat) (qs : List Nat) (cs' : Array Value), e = .returned (.int .u64 r) ∧ Upd [zb] w w' ∧ Blk w' zb 161 cs' ∧ cs'.size = cs.size ∧ Wd cs' 0 qs ∧ qs.length = L ∧ (∀ d ∈ qs, d < 18446744073709551616) ∧ val xs = val qs * 1000000000000000000 + r ∧ r < 1000000000000000000 := by
  have hzl := hz.lt
  have HX := hide hx
  have HXS := hide hxs
  have HL := hide hl
  clear hx hxs hl
  rcases (by omega : L = 1 ∨ 2 ≤ L) with rfl | h2
  · obtain ⟨x0, hx0⟩ : ∃ x0, xs.getD 0 0 = x0 := ⟨_, rfl⟩
    have c0 := HX.out 0 (by omega)
    rw [hx0] at c0
    have hxe : xs = [x0] := by
      rcases xs with _ | ⟨a, _ | ⟨b, t⟩⟩
      · have := HL.out; simp at this
      · simp at hx0; rw [hx0]
      · have := HL.out; simp at this
    have hx0l : x0 < 18446744073709551616 := HXS.out x0 (by rw [hxe]; simp)
    have cz := hz.at_ (Array.getElem?_eq_getElem (show 0 < cs.size by omega))
    have hc := bitsDiv0 x0 1000000000000000000 hx0l (by omega) (by omega) w
    obtain ⟨q, hq⟩ : ∃ q, x0 / 1000000000000000000 = q := ⟨_, rfl⟩
    obtain ⟨r, hr⟩ : ∃ r, x0 % 1000000000000000000 = r := ⟨_, rfl⟩
    have hv : val xs = val [q] * 1000000000000000000 + r := by rw [hxe]; simp only [val_cons, val_nil]; omega
    have hrl : r < 1000000000000000000 := by omega
    have hql : q < 18446744073709551616 := by omega
    rw [hq, hr] at hc
    have HC := hide hc
    have HV := hide hv
    have HXE := hide hxe
    clear hc hv hxe hq hr hx0
    go_enter Tryz.func213, Tryz.ntmps213
    go_wp2_with fail
    refine HC.out.mono ?_
    rintro e w1 ⟨rfl, n, rfl⟩
    have hz1 := hz.drewN n
    have fz := hz1.frozen 0
    have cz1 := hz1.at_ (Array.getElem?_eq_getElem (show 0 < cs.size by omega))
    go_wp2
    go_ret
    refine ⟨r, [q], _, rfl, ((Upd.refl _ _).drewN n).setCell (by simp) _, hz1.set_ 0 _, by simp, ?_, rfl, by simpa using hql, HV.out, hrl⟩
    intro i hi
    have hi0 : i = 0 := by simpa using hi
    subst hi0
    rw [Array.getElem?_setIfInBounds_self_of_lt (by omega)]; rfl
  · obtain ⟨m, hm⟩ : ∃ m, L = m + 1 := ⟨L - 1, by omega⟩
    subst hm
    have t1 : (((m + 1 : Nat) : Int) == 1) = false := beq_eq_false_iff_ne.2 (by omega)
    have t1b : (((m : Int) + 1) == 1) = false := beq_eq_false_iff_ne.2 (by omega)
    have t2 : wrap64 ((m : Int) + 1 - 1) = (m : Int) := by unfold wrap64; omega
    have t2b : (m : Int) + 1 - 1 = (m : Int) := by omega
    have t3 : wrap64 (m : Int) = (m : Int) := by unfold wrap64; omega
    go_enter Tryz.func213, Tryz.ntmps213
    go_wp2_with fail
    refine (recip_18 _).mono ?_
    rintro e w1 ⟨rfl, rfl⟩
    go_wp2_with fail
    go_loopw [8, 12] (fun rr i wr => ∃ (k r : Nat) (qs : List Nat) (cs' : Array Value), k ≤ m + 1 ∧ i = .int .i64 ((k : Int) - 1) ∧ rr = .int .u64 r ∧ r < 1000000000000000000 ∧ Upd [zb] w wr ∧ Blk wr zb 161 cs' ∧ cs'.size = cs.size ∧ Hid (Wd cs' k qs) ∧
        Hid (∀ j, j < k → cs'[j]? = cs[j]?) ∧ Hid (qs.length = m + 1 - k) ∧ Hid (∀ d ∈ qs, d < 18446744073709551616) ∧ Hid (val (xs.drop k) = val qs * 1000000000000000000 + r))
      (fun _ i _ => (intOf i + 1).toNat)
    case atStart =>
      refine ⟨m + 1, 0, [], cs, Nat.le_refl _, by go_num, rfl, by omega, Upd.refl _ _, hz, rfl, Wd.nil _ _, fun _ _ => rfl, ?_, ?_, ?_⟩
      · show _ = _; simp
      · show ∀ d ∈ [], _; simp
      · show _ = _; rw [List.drop_of_length_le (by rw [HL.out]; exact Nat.le_refl _)]; simp [val_nil]
    case round =>
      obtain ⟨k, r, qs, cs', hk, rfl, rfl, hr, hu, hb, hsz, hwd, hlo, hql, hqd, hv⟩ := hrel
      rcases Nat.eq_zero_or_pos k with rfl | hkp
      · have b0 : ((0 : Nat) : Int) - 1 = -1 := rfl
        rw [b0]
        go_wp2
        go_ret
        refine ⟨r, qs, cs', rfl, hu, hb, hsz, hwd.out, ?_, hqd.out, ?_, hr⟩
        · have := hql.out; omega
        · have := hv.out; simpa using this
      · obtain ⟨j, rfl⟩ : ∃ j, k = j + 1 := ⟨k - 1, by omega⟩
        obtain ⟨x0, hx0⟩ : ∃ x0, xs.getD j 0 = x0 := ⟨_, rfl⟩
        have hjl : j < xs.length := by rw [HL.out]; omega
        have hx0l : x0 < 18446744073709551616 := by
          rw [← hx0]; exact getD_lt _ HXS.out _
        have cx : wr.cell? ⟨xb, j, none⟩ = some (W64 x0) := by
          have h0 := HX.out j (by omega)
          rw [hx0] at h0
          by_cases hxz : xb = zb
          · subst hxz
            rw [hb.cell, hlo.out j (by omega), ← hz.cell]
            exact h0
          · exact (hu.cell (p := ⟨xb, j, none⟩) (lt_of_cell h0) (by simpa using hxz)).trans h0
        have cz := hb.at_ (Array.getElem?_eq_getElem (show j < cs'.size by omega))
        have fz := hb.frozen j
        have hdv : val (xs.drop j) = x0 + 18446744073709551616 * val (xs.drop (j + 1)) := by
          rw [drop_succ_getD xs j hjl, hx0, val_cons]
        have HDV := hide hdv
        clear hdv hx0
        have u1 : (((j + 1 : Nat) : Int) - 1) = (j : Int) := by omega
        have u2 : wrap64 ((j : Int) - 1) = (j : Int) - 1 := by unfold wrap64; omega
        have u3 : (0 : Int) ≤ (j : Int) := by omega
        have u4 : (j : Int) < (m : Int) + 1 := by omega
        rw [u1]
        go_wp2_with fail
        refine (divWW_18 r x0 hr hx0l _).mono ?_
        rintro e w2 ⟨q, r', rfl, rfl, e1, e2, e3⟩
        have E1 := hide e1
        clear e1
        go_wp2
        go_roundw
        case rel =>
          refine ⟨j, r', q :: qs, cs'.setIfInBounds j (W64 q), by omega, by go_num, rfl, e2, hu.setCell (by simp) _, hb.set_ j _, by simpa using hsz, ?_, ?_, ?_, ?_, ?_⟩
          · show Wd _ _ _
            intro i hi
            rcases i with _ | i
            · rw [Nat.add_zero, Array.getElem?_setIfInBounds_self_of_lt (by omega)]; rfl
            · have := hwd.out i (by simpa using hi)
              rw [Array.getElem?_setIfInBounds_ne (by omega), show j + (i + 1) = j + 1 + i from by omega, this]
              rfl
          · show ∀ i, _
            intro i hi
            rw [Array.getElem?_setIfInBounds_ne (by omega)]
            exact hlo.out i (by omega)
          · show _ = _
            have := hql.out
            rw [List.length_cons]; omega
          · show ∀ d ∈ _, _
            intro d hd
            rcases List.mem_cons.1 hd with rfl | hd
            · exact e3
            · exact hqd.out d hd
          · show _ = _
            have h1 := hv.out
            have h2 := E1.out
            rw [HDV.out, h1, val_cons, Nat.add_mul, Nat.mul_assoc, Nat.mul_add]
            omega
        case measure => first | (simp [intOf]; done) | (simp [intOf]; omega)

set_option maxRecDepth 100000 in
set_option maxHeartbeats 4000000 in
theorem divW_18 (w : World) (Z X : Option Addr) (Lz Cz Lx Cx n : Nat) (wz : List Nat) (hZ : NatS w Z Lz Cz wz) (hX : NatS w X Lx Cx (wo n)) (hL : Lx ≤ 1000) :
    Calls Tryz.prog 167 #[.slice Z Lz Cz, .slice X Lx Cx, .int .u64 1000000000000000000] w fun e w' =>
      ∃ A L C, e = .returned (.tuple #[.slice A L C, .int .u64 (n % 1000000000000000000 : Nat)]) ∧ NatS w' A L C (wo (n / 1000000000000000000)) ∧ Upd (bof Z) w w' ∧ ∀ b ∈ bof A, b ∈ bof Z ∨ w.heap.size ≤ b := by
  have hC1 := hX.2.2.1
  have hC2 := hX.2.2.2.1
  have hC3 := hZ.2.2.2.1
  rcases Nat.eq_zero_or_pos Lx with rfl | hLp
  · have hn : n = 0 := by
      rcases Nat.eq_zero_or_pos n with h | h
      · exact h
      · have := wo_len_pos (by omega : n ≠ 0); rw [hX.1] at this; omega
    subst hn
    go_enter Tryz.func167, Tryz.ntmps167
    go_wp2
    go_ret2
    exact ⟨Z, 0, Cz, rfl, hZ.zero, Upd.refl _ _, fun b hb => .inl hb⟩
  · have t1 : ((Lx : Int) == 0) = false := beq_eq_false_iff_ne.2 (by omega)
    have hmk := make_any w Z Lz Cz Lx wz (by omega) hZ
    have HMK := hide hmk
    clear hmk
    go_enter Tryz.func167, Tryz.ntmps167
    go_wp2_with fail
    refine HMK.out.mono ?_
    rintro e w1 ⟨A', C', rfl, hu, hC', hC4, hr⟩
    rcases hr with ⟨rfl, hL0, rfl⟩ | ⟨b, cs, rfl, hb, hcs, hC0, hbz⟩
    · omega
    · have hX1 := hX.upd hu (by simp)
      obtain ⟨xb, cx, rfl, hbx, hcx, hwx⟩ := hX1.row (by omega)
      have hdv := divWVW_18 w1 b xb Lx C' Cx cs (wo n) hL hLp hX1.1 (wo_lt n) hb (by omega) (by omega) hC1 (by omega) hC2 hX1.cells
      have HDV := hide hdv
      clear hdv
      go_wp2_with fail
      refine HDV.out.mono ?_
      rintro e w2 ⟨r, qs, cs', rfl, hu2, hb2, hsz, hwd, hql, hqd, hv, hrl⟩
      have hnb := norm_blk w2 b Lx C' cs' qs hql hb2 hwd hqd (by omega) (by omega) (by omega) (by omega)
      have HNB := hide hnb
      have HV := hide hv
      have HQD := hide hqd
      have HWD := hide hwd
      clear hnb hv hqd hwd
      go_wp2_with fail
      refine HNB.out.mono ?_
      rintro e w3 ⟨k, rfl, hS, rfl⟩
      go_wp2
      go_ret2
      have hvn : n = val qs * 1000000000000000000 + r := by have := HV.out; rwa [val_wo] at this
      have hq : n / 1000000000000000000 = val qs := by omega
      have hr2 : n % 1000000000000000000 = r := by omega
      refine ⟨_, k, C', by rw [hr2]; rfl, by rw [hq]; exact hS, ?_, by simpa [bof] using hbz⟩
      exact hu.into hu2 (by simp) hbz

set_option maxRecDepth 100000 in
set_option maxHeartbeats 4000000 in
theorem divWVW_19 (w : World) (zb xb L zc xc : Nat) (cs : Array Value) (xs : List Nat) (hL : L ≤ 1000) (h1 : 1 ≤ L) (hl : xs.length = L) (hxs : ∀ d ∈ xs, d < 18446744073709551616) (hz : Blk w zb 161 cs) (hs : L ≤ cs.size) (hzc : L ≤ zc) (hxc : L ≤ xc) (hzc2 : zc ≤ 100000) (hxc2 : xc ≤ 100000)
    (hx : ∀ i, i < L → w.cell? ⟨xb, i, none⟩ = some (W64 (xs.getD i 0))) :
    Calls Tryz.prog 213 #[.slice (some ⟨zb, 0, none⟩) L zc, .int .u64 0, .slice (some ⟨xb, 0, none⟩) L xc, .int .u64 10000000000000000000] w fun e w' =>
      ∃ (r : Nat) (qs : List Nat) (cs' : Array Value), e = .returned (.int .u64 r) ∧ Upd [zb] w w' ∧ Blk w' zb 161 cs' ∧ cs'.size = cs.size ∧ Wd cs' 0 qs ∧ qs.length = L ∧ (∀ d ∈ qs, d < 18446744073709551616) ∧ val xs = val qs * 10000000000000000000 + r ∧ r < 10000000000000000000 := by
  have hzl := hz.lt
  have HX := hide hx
  have HXS := hide hxs
  have HL := hide hl
  clear hx hxs hl
  rcases (by omega : L = 1 ∨ 2 ≤ L) with rfl | h2
  · obtain ⟨x0, hx0⟩ : ∃ x0, xs.getD 0 0 = x0 := ⟨_, rfl⟩
    have c0 := HX.out 0 (by omega)
    rw [hx0] at c0
    have hxe : xs = [x0] := by
      rcases xs with _ | ⟨a, _ | ⟨b, t⟩⟩
      · have := HL.out; simp at this
      · simp at hx0; rw [hx0]
      · have := HL.out; simp at this
    have hx0l : x0 < 18446744073709551616 := HXS.out x0 (by rw [hxe]; simp)
    have cz := hz.at_ (Array.getElem?_eq_getElem (show 0 < cs.size by omega))
    have hc := bitsDiv0 x0 10000000000000000000 hx0l (by omega) (by omega) w
    obtain ⟨q, hq⟩ : ∃ q, x0 / 10000000000000000000 = q := ⟨_, rfl⟩
    obtain ⟨r, hr⟩ : ∃ r, x0 % 10000000000000000000 = r := ⟨_, rfl⟩
    have hv : val xs = val [q] * 10000000000000000000 + r := by rw [hxe]; simp only [val_cons, val_nil]; omega
    have hrl : r < 10000000000000000000 := by omega
    have hql : q < 18446744073709551616 := by omega
    rw [hq, hr] at hc
    have HC := hide hc
    have HV := hide hv
    have HXE := hide hxe
    clear hc hv hxe hq hr hx0
    go_enter Tryz.func213, Tryz.ntmps213
    go_wp2_with fail
    refine HC.out.mono ?_
    rintro e w1 ⟨rfl, n, rfl⟩
    have hz1 := hz.drewN n
    have fz := hz1.frozen 0
    have cz1 := hz1.at_ (Array.getElem?_eq_getElem (show 0 < cs.size by omega))
    go_wp2
    go_ret
    refine ⟨r, [q], _, rfl, ((Upd.refl _ _).drewN n).setCell (by simp) _, hz1.set_ 0 _, by simp, ?_, rfl, by simpa using hql, HV.out, hrl⟩
    intro i hi
    have hi0 : i = 0 := by simpa using hi
    subst hi0
    rw [Array.getElem?_setIfInBounds_self_of_lt (by omega)]; rfl
  · obtain ⟨m, hm⟩ : ∃ m, L = m + 1 := ⟨L - 1, by omega⟩
    subst hm
    have t1 : (((m + 1 : Nat) : Int) == 1) = false := beq_eq_false_iff_ne.2 (by omega)
    have t1b : (((m : Int) + 1) == 1) = false := beq_eq_false_iff_ne.2 (by omega)
    have t2 : wrap64 ((m : Int) + 1 - 1) = (m : Int) := by unfold wrap64; omega
    have t2b : (m : Int) + 1 - 1 = (m : Int) := by omega
    have t3 : wrap64 (m : Int) = (m : Int) := by unfold wrap64; omega
    go_enter Tryz.func213, Tryz.ntmps213
    go_wp2_with fail
    refine (recip_19 _).mono ?_
    rintro e w1 ⟨rfl, rfl⟩
    go_wp2_with fail
    go_loopw [8, 12] (fun rr i wr => ∃ (k r : Nat) (qs : List Nat) (cs' : Array Value), k ≤ m + 1 ∧ i = .int .i64 ((k : Int) - 1) ∧ rr = .int .u64 r ∧ r < 10000000000000000000 ∧ Upd [zb] w wr ∧ Blk wr zb 161 cs' ∧ cs'.size = cs.size ∧ Hid (Wd cs' k qs) ∧
        Hid (∀ j, j < k → cs'[j]? = cs[j]?) ∧ Hid (qs.length = m + 1 - k) ∧ Hid (∀ d ∈ qs, d < 18446744073709551616) ∧ Hid (val (xs.drop k) = val qs * 10000000000000000000 + r))
      (fun _ i _ => (intOf i + 1).toNat)
    case atStart =>
      refine ⟨m + 1, 0, [], cs, Nat.le_refl _, by go_num, rfl, by omega, Upd.refl _ _, hz, rfl, Wd.nil _ _, fun _ _ => rfl, ?_, ?_, ?_⟩
      · show _ = _; simp
      · show ∀ d ∈ [], _; simp
      · show _ = _; rw [List.drop_of_length_le (by rw [HL.out]; exact Nat.le_refl _)]; simp [val_nil]
    case round =>
      obtain ⟨k, r, qs, cs', hk, rfl, rfl, hr, hu, hb, hsz, hwd, hlo, hql, hqd, hv⟩ := hrel
      rcases Nat.eq_zero_or_pos k with rfl | hkp
      · have b0 : ((0 : Nat) : Int) - 1 = -1 := rfl
        rw [b0]
        go_wp2
        go_ret
        refine ⟨r, qs, cs', rfl, hu, hb, hsz, hwd.out, ?_, hqd.out, ?_, hr⟩
        · have := hql.out; omega
        · have := hv.out; simpa using this
      · obtain ⟨j, rfl⟩ : ∃ j, k = j + 1 := ⟨k - 1, by omega⟩
        obtain ⟨x0, hx0⟩ : ∃ x0, xs.getD j 0 = x0 := ⟨_, rfl⟩
        have hjl : j < xs.length := by rw [HL.out]; omega
        have hx0l : x0 < 18446744073709551616 := by
          rw [← hx0]; exact getD_lt _ HXS.out _
        have cx : wr.cell? ⟨xb, j, none⟩ = some (W64 x0) := by
          have h0 := HX.out j (by omega)
          rw [hx0] at h0
          by_cases hxz : xb = zb
          · subst hxz
            rw [hb.cell, hlo.out j (by omega), ← hz.cell]
            exact h0
          · exact (hu.cell (p := ⟨xb, j, none⟩) (lt_of_cell h0) (by simpa using hxz)).trans h0
        have cz := hb.at_ (Array.getElem?_eq_getElem (show j < cs'.size by omega))
        have fz := hb.frozen j
        have hdv : val (xs.drop j) = x0 + 18446744073709551616 * val (xs.drop (j + 1)) := by
          rw [drop_succ_getD xs j hjl, hx0, val_cons]
        have HDV := hide hdv
        clear hdv hx0
        have u1 : (((j + 1 : Nat) : Int) - 1) = (j : Int) := by omega
        have u2 : wrap64 ((j : Int) - 1) = (j : Int) - 1 := by unfold wrap64; omega
        have u3 : (0 : Int) ≤ (j : Int) := by omega
        have u4 : (j : Int) < (m : Int) + 1 := by omega
        rw [u1]
        go_wp2_with fail
        refine (divWW_19 r x0 hr hx0l _).mono ?_
        rintro e w2 ⟨q, r', rfl, rfl, e1, e2, e3⟩
        have E1 := hide e1
        clear e1
        go_wp2
        go_roundw
        case rel =>
          refine ⟨j, r', q :: qs, cs'.setIfInBounds j (W64 q), by omega, by go_num, rfl, e2, hu.setCell (by simp) _, hb.set_ j _, by simpa using hsz, ?_, ?_, ?_, ?_, ?_⟩
          · show Wd _ _ _
            intro i hi
            rcases i with _ | i
            · rw [Nat.add_zero, Array.getElem?_setIfInBounds_self_of_lt (by omega)]; rfl
            · have := hwd.out i (by simpa using hi)
              rw [Array.getElem?_setIfInBounds_ne (by omega), show j + (i + 1) = j + 1 + i from by omega, this]
              rfl
          · show ∀ i, _
            intro i hi
            rw [Array.getElem?_setIfInBounds_ne (by omega)]
            exact hlo.out i (by omega)
          · show _ = _
            have := hql.out
            rw [List.length_cons]; omega
          · show ∀ d ∈ _, _
            intro d hd
            rcases List.mem_cons.1 hd with rfl | hd
            · exact e3
            · exact hqd.out d hd
          · show _ = _
            have h1 := hv.out
            have h2 := E1.out
            rw [HDV.out, h1, val_cons, Nat.add_mul, Nat.mul_assoc, Nat.mul_add]
            omega
        case measure => first | (simp [intOf]; done) | (simp [intOf]; omega)

set_option maxRecDepth 100000 in
set_option maxHeartbeats 4000000 in
theorem divW_19 (w : World) (Z X : Option Addr) (Lz Cz Lx Cx n : Nat) (wz : List Nat) (hZ : NatS w Z Lz Cz wz) (hX : NatS w X Lx Cx (wo n)) (hL : Lx ≤ 1000) :
    Calls Tryz.prog 167 #[.slice Z Lz Cz, .slice X Lx Cx, .int .u64 10000000000000000000] w fun e w' =>
      ∃ A L C, e = .returned (.tuple #[.slice A L C, .int .u64 (n % 10000000000000000000 : Nat)]) ∧ NatS w' A L C (wo (n / 10000000000000000000)) ∧ Upd (bof Z) w w' ∧ ∀ b ∈ bof A, b ∈ bof Z ∨ w.heap.size ≤ b := by
  have hC1 := hX.2.2.1
  have hC2 := hX.2.2.2.1
  have hC3 := hZ.2.2.2.1
  rcases Nat.eq_zero_or_pos Lx with rfl | hLp
  · have hn : n = 0 := by
      rcases Nat.eq_zero_or_pos n with h | h
      · exact h
      · have := wo_len_pos (by omega : n ≠ 0); rw [hX.1] at this; omega
    subst hn
    go_enter Tryz.func167, Tryz.ntmps167
    go_wp2
    go_ret2
    exact ⟨Z, 0, Cz, rfl, hZ.zero, Upd.refl _ _, fun b hb => .inl hb⟩
  · have t1 : ((Lx : Int) == 0) = false := beq_eq_false_iff_ne.2 (by omega)
    have hmk := make_any w Z Lz Cz Lx wz (by omega) hZ
    have HMK := hide hmk
    clear hmk
    go_enter Tryz.func167, Tryz.ntmps167
    go_wp2_with fail
    refine HMK.out.mono ?_
    rintro e w1 ⟨A', C', rfl, hu, hC', hC4, hr⟩
    rcases hr with ⟨rfl, hL0, rfl⟩ | ⟨b, cs, rfl, hb, hcs, hC0, hbz⟩
    · omega
    · have hX1 := hX.upd hu (by simp)
      obtain ⟨xb, cx, rfl, hbx, hcx, hwx⟩ := hX1.row (by omega)
      have hdv := divWVW_19 w1 b xb Lx C' Cx cs (wo n) hL hLp hX1.1 (wo_lt n) hb (by omega) (by omega) hC1 (by omega) hC2 hX1.cells
      have HDV := hide hdv
      clear hdv
      go_wp2_with fail
      refine HDV.out.mono ?_
      rintro e w2 ⟨r, qs, cs', rfl, hu2, hb2, hsz, hwd, hql, hqd, hv, hrl⟩
      have hnb := norm_blk w2 b Lx C' cs' qs hql hb2 hwd hqd (by omega) (by omega) (by omega) (by omega)
      have HNB := hide hnb
      have HV := hide hv
      have HQD := hide hqd
      have HWD := hide hwd
      clear hnb hv hqd hwd
      go_wp2_with fail
      refine HNB.out.mono ?_
      rintro e w3 ⟨k, rfl, hS, rfl⟩
      go_wp2
      go_ret2
      have hvn : n = val qs * 10000000000000000000 + r := by have := HV.out; rwa [val_wo] at this
      have hq : n / 10000000000000000000 = val qs := by omega
      have hr2 : n % 10000000000000000000 = r := by omega
      refine ⟨_, k, C', by rw [hr2]; rfl, by rw [hq]; exact hS, ?_, by simpa [bof] using hbz⟩
      exact hu.into hu2 (by simp) hbz

end Go.Proofs.YtnajekpckbfcdaaGreatDoor
