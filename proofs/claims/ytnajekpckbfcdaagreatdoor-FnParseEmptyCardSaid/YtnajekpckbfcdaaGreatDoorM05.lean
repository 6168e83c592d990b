/-
  nat: expNN, bits.Div.
-/
import Derived.Test.YtnajekpckbfcdaaGreatDoorM04
import Derived.Defers
set_option linter.unusedVariables false
set_option linter.unusedSimpArgs false
namespace Go.Proofs.YtnajekpckbfcdaaGreatDoor
open Go.RowKit

theorem nlz_lit (v n m : Nat) (hv : v < 18446744073709551616) (h : Lib.bitLen v = n) (hn : n + m = 64) (w : World) :
    Calls Tryz.prog 215 #[.int .u64 v] w fun e w' => e = .returned (.int .u64 m) ∧ w = w' := by
  have hc := Tryz.bits_LeadingZeros (v : Int) w (by omega) (by omega)
  rw [Int.toNat_natCast, h, show (64 : Int) - (n : Int) = (m : Int) from by omega] at hc
  have HC := hide hc
  have hw : IntKind.u64.wrap (m : Int) = (m : Int) := wrapN m (by omega)
  clear hc h
  go_enter Tryz.func215, Tryz.ntmps215
  go_wp2_with fail
  refine HC.out.mono ?_
  rintro e w' ⟨rfl, rfl⟩
  go_wp2
  go_ret
  exact ⟨rfl, rfl⟩

theorem getStack_any (w : World) : Calls Tryz.prog 169 #[] w fun e w' => ∃ p, e = .returned (.pointer (some ⟨p, 0, none⟩)) ∧ Blk w' p 257 #[.pointer none] ∧ Upd [] w w' ∧ w.heap.size ≤ p := by
  go_enter Tryz.func169, Tryz.ntmps169
  go_wp2
  go_ret
  exact ⟨_, rfl, Blk.new _ _ _, (Upd.refl _ _).alloc _, Nat.le_refl _⟩

/-- Two rows of nats do not meet. -/
def Apart (A B : Option Addr) : Prop := ∀ b ∈ bof A, b ∉ bof B
theorem Apart.symm {A B : Option Addr} (h : Apart A B) : Apart B A := fun b hb ha => h b ha hb
def Fresh (n : Nat) (A : Option Addr) : Prop := ∀ b ∈ bof A, n ≤ b

theorem free_d (w : World) (u : FrameMode) (p : Addr) (hp : w.cell? p = some (.pointer none)) :
    CallsD Tryz.prog 170 #[.pointer (some p)] u w fun e u' w' => u' = u ∧ (e = .returned (.tuple #[]) ∧ w' = w) := by
  go_enter_d Tryz.func170, Tryz.ntmps170
  go_wp2
  go_end0
  exact ⟨rfl, rfl⟩

def expNN_18_v : Nat → Nat
  | 0 => 2305843009213693952
  | 1 => 4611686018427387904
  | 2 => 9223372036854775808
  | 3 => 0
  | 4 => 0
  | 5 => 0
  | _ => 0
def expNN_18_z : Nat → Nat
  | 0 => 10
  | 1 => 100
  | 2 => 10000
  | 3 => 1000000000
  | 4 => 1000000000000000000
  | _ => 0

set_option maxRecDepth 100000 in
set_option maxHeartbeats 8000000 in
theorem expNN_18 (w : World) (X Y : Option Addr) (Cx Cy N : Nat) (hNv : N = 10 ^ 18) (hX : NatS w X 1 Cx (wo 10)) (hY : NatS w Y 1 Cy (wo 18)) (hN : Nums w) :
    Calls Tryz.prog 252 #[.slice none 0 0, .pointer none, .slice X 1 Cx, .slice Y 1 Cy, .slice none 0 0, .bool false] w (NatRes w none N) := by
  have HNV := hide hNv
  clear hNv
  obtain ⟨bx, cx, rfl, hbx, hcx, hwx⟩ := hX.row (by have := hX.2.2.1; omega)
  obtain ⟨by', cy, rfl, hby, hcy, hwy⟩ := hY.row (by have := hY.2.2.1; omega)
  have ex : wo 10 = [10] := wo_one (by omega) (by omega)
  have ey : wo 18 = [18] := wo_one (by omega) (by omega)
  have cx0 := hX.cells 0 (by omega)
  have cy0 := hY.cells 0 (by omega)
  rw [ex] at cx0
  rw [ey] at cy0
  simp only [List.getD_cons_zero] at cx0 cy0
  have hax := alias_no w none (some ⟨bx, 0, none⟩) 0 0 1 Cx [] (wo 10) (NatS.nil w) hX (by simp [bof])
  have HAX := hide hax
  clear ex ey hax
  have hv0 : IntKind.u64.wrap 20752587082923245568 = 2305843009213693952 := by rw [IntKind.wrap_u64]; omega
  go_enter_defers Tryz.func252, Tryz.ntmps252
  go_wp2_with fail
  refine HAX.out.mono ?_
  rintro e w1 ⟨rfl, q, rfl⟩
  go_wp2_with fail
  have hay := alias_no (w.drewN q) none (some ⟨by', 0, none⟩) 0 0 1 Cy [] (wo 18) (NatS.nil _) (hY.drewN q) (by simp [bof])
  refine hay.mono ?_
  rintro e w1 ⟨rfl, q2, rfl⟩
  clear hay HAX
  go_wp2_with fail
  refine (getStack_any _).mono ?_
  rintro e w1 ⟨p, rfl, hp, hu1, hpw⟩
  have hu1 := hu1.undrewN
  have hX1 := hX.upd hu1 (by simp)
  have hY1 := hY.upd hu1 (by simp)
  have cx1 := (hu1.cell (p := ⟨bx, 0, none⟩) hbx.lt (by simp)).trans cx0
  have cy1 := (hu1.cell (p := ⟨by', 0, none⟩) hby.lt (by simp)).trans cy0
  go_wp2_with fail
  refine (set_any w1 none (some ⟨bx, 0, none⟩) 0 0 1 Cx 10 [] (NatS.nil _) hX1 (by omega)).mono ?_
  rintro e w2 ⟨A', L', C', rfl, hS2, hu2, hb2⟩
  have cy2 := (hu2.cell (p := ⟨by', 0, none⟩) (lt_of_cell cy1) (by simp [bof])).trans cy1
  go_wp2_with fail
  refine (nlz_lit 18 5 59 (by omega) (by decide) (by omega) _).mono ?_
  rintro e w3 ⟨rfl, rfl⟩
  have hu3 : Upd [] w w2 := hu1.trans hu2 (by simp [bof])
  have hp3 := hp.upd hu2 (by simp [bof])
  clear cx1 cy1 cy2 hX1 hY1 cx0 cy0
  go_wp2_with fail
  go_loopw [0, 15, 19, 21] (fun z v zz i wr => ∃ (j : Nat) (A : Option Addr) (L C : Nat) (A2 : Option Addr) (L2 C2 : Nat) (ws2 : List Nat), j ≤ 4 ∧ i = .int .i64 j ∧ v = .int .u64 (expNN_18_v j) ∧ z = .slice A L C ∧ zz = .slice A2 L2 C2 ∧
      NatS wr A L C (wo (expNN_18_z j)) ∧ NatS wr A2 L2 C2 ws2 ∧ Hid (Apart A2 A) ∧ Hid (Fresh w.heap.size A) ∧ Hid (Fresh w.heap.size A2) ∧ Upd [] w wr ∧ Blk wr p 257 #[.pointer none] ∧ p ∉ bof A ∧ p ∉ bof A2)
    (fun _ _ _ i _ => 4 - (intOf i).toNat)
  case atStart =>
    refine ⟨0, A', L', C', none, 0, 0, [], by omega, rfl, rfl, rfl, rfl, hS2, NatS.nil _, ?_, ?_, ?_, hu3, hp3, ?_, by simp [bof]⟩
    · show Apart _ _; intro b hb; simp [bof] at hb
    · show Fresh _ _
      intro b hb
      rcases hb2 b hb with h | h
      · simp [bof] at h
      · have := hu1.size; omega
    · show Fresh _ _; intro b hb; simp [bof] at hb
    · intro hm
      rcases hb2 p hm with h | h
      · simp [bof] at h
      · have := hp.lt; omega
  case round =>
    clear hS2 hu3 hp3 hp hu1 hu2 hb2
    obtain ⟨j, A, L, C, A2, L2, C2, ws2, hj, rfl, rfl, rfl, rfl, hS, hS2, hap, hf1, hf2, hu, hpk, hp1, hp2⟩ := hrel
    have hNr := hN.upd hu (by simp)
    have hXr := hX.upd hu (by simp)
    have hxA : Apart A (some ⟨bx, 0, none⟩) := by
      intro b hb hm
      have h1 := hf1.out b hb
      simp [bof] at hm
      subst hm
      have := hbx.lt
      omega
    have hxA2 : Apart A2 (some ⟨bx, 0, none⟩) := by
      intro b hb hm
      have h1 := hf2.out b hb
      simp [bof] at hm
      subst hm
      have := hbx.lt
      omega
    have HXA := hide hxA
    have HXA2 := hide hxA2
    clear hxA hxA2
    have hsz := hu.size
    rcases (by omega : j = 0 ∨ j = 1 ∨ j = 2 ∨ j = 3 ∨ j = 4) with rfl | rfl | rfl | rfl | rfl
    · have ev : expNN_18_v 0 = 2305843009213693952 := rfl
      have ez : expNN_18_z 0 = 10 := rfl
      rw [ez] at hS
      have hL11 : L ≤ 11 := by
        rw [← hS.1]
        exact wo_len_le (by decide)
      have hbit : bits .and .u64 2305843009213693952 9223372036854775808 = 0 := by kernel_rfl
      have hshl : IntKind.u64.wrap 4611686018427387904 = 4611686018427387904 := by rw [IntKind.wrap_u64]; omega
      go_wp2_with fail
      refine (sqr_any wr A2 A (.pointer (some ⟨p, 0, none⟩)) L2 C2 L C 10 ws2 hS2 hS hL11 hap.out hNr).mono ?_
      rintro e w3 ⟨A3, L3, C3, rfl, hS3, hu3, hb3⟩
      have hSo := hS.upd hu3 (fun b hb hm => hap.out b hm hb)
      have hpo := hpk.upd hu3 hp2
      have hX3 := hXr.upd hu3 (fun b hb hm => HXA2.out b hm hb)
      have hap3 : Apart A A3 := by
        intro b hb hm
        rcases hb3 b hm with h | h
        · exact hap.out b h hb
        · have := hS.lt b hb; omega
      have hf3 : Fresh w.heap.size A3 := by
        intro b hb
        rcases hb3 b hb with h | h
        · exact hf2.out b h
        · omega
      have hp33 : p ∉ bof A3 := by
        intro hm
        rcases hb3 p hm with h | h
        · exact hp2 h
        · have := hpk.lt; omega
      have hu03 : Upd [] w w3 := hu.trans hu3 (fun k hk hlt => absurd (hf2.out k hk) (by omega))
      have HA3 := hide hap3
      have HF3 := hide hf3
      clear hap3 hf3
      have em : (10 : Nat) * 10 = 100 := by omega
      rw [em] at hS3
      clear em ez
      go_wp2
      go_roundw
      case rel => exact ⟨1, A3, L3, C3, A, L, C, _, by omega, by go_num, rfl, rfl, rfl, hS3, hSo, HA3.out, HF3.out, hf1, hu03, hpo, hp33, hp1⟩
      case measure => simp [intOf]
    · have ev : expNN_18_v 1 = 4611686018427387904 := rfl
      have ez : expNN_18_z 1 = 100 := rfl
      rw [ez] at hS
      have hL11 : L ≤ 11 := by
        rw [← hS.1]
        exact wo_len_le (by decide)
      have hbit : bits .and .u64 4611686018427387904 9223372036854775808 = 0 := by kernel_rfl
      have hshl : IntKind.u64.wrap 9223372036854775808 = 9223372036854775808 := by rw [IntKind.wrap_u64]; omega
      go_wp2_with fail
      refine (sqr_any wr A2 A (.pointer (some ⟨p, 0, none⟩)) L2 C2 L C 100 ws2 hS2 hS hL11 hap.out hNr).mono ?_
      rintro e w3 ⟨A3, L3, C3, rfl, hS3, hu3, hb3⟩
      have hSo := hS.upd hu3 (fun b hb hm => hap.out b hm hb)
      have hpo := hpk.upd hu3 hp2
      have hX3 := hXr.upd hu3 (fun b hb hm => HXA2.out b hm hb)
      have hap3 : Apart A A3 := by
        intro b hb hm
        rcases hb3 b hm with h | h
        · exact hap.out b h hb
        · have := hS.lt b hb; omega
      have hf3 : Fresh w.heap.size A3 := by
        intro b hb
        rcases hb3 b hb with h | h
        · exact hf2.out b h
        · omega
      have hp33 : p ∉ bof A3 := by
        intro hm
        rcases hb3 p hm with h | h
        · exact hp2 h
        · have := hpk.lt; omega
      have hu03 : Upd [] w w3 := hu.trans hu3 (fun k hk hlt => absurd (hf2.out k hk) (by omega))
      have HA3 := hide hap3
      have HF3 := hide hf3
      clear hap3 hf3
      have em : (100 : Nat) * 100 = 10000 := by omega
      rw [em] at hS3
      clear em ez
      go_wp2
      go_roundw
      case rel => exact ⟨2, A3, L3, C3, A, L, C, _, by omega, by go_num, rfl, rfl, rfl, hS3, hSo, HA3.out, HF3.out, hf1, hu03, hpo, hp33, hp1⟩
      case measure => simp [intOf]
    · have ev : expNN_18_v 2 = 9223372036854775808 := rfl
      have ez : expNN_18_z 2 = 10000 := rfl
      rw [ez] at hS
      have hL11 : L ≤ 11 := by
        rw [← hS.1]
        exact wo_len_le (by decide)
      have hbit : bits .and .u64 9223372036854775808 9223372036854775808 = 9223372036854775808 := by kernel_rfl
      have hshl : IntKind.u64.wrap 18446744073709551616 = 0 := by rw [IntKind.wrap_u64]; omega
      go_wp2_with fail
      refine (sqr_any wr A2 A (.pointer (some ⟨p, 0, none⟩)) L2 C2 L C 10000 ws2 hS2 hS hL11 hap.out hNr).mono ?_
      rintro e w3 ⟨A3, L3, C3, rfl, hS3, hu3, hb3⟩
      have hSo := hS.upd hu3 (fun b hb hm => hap.out b hm hb)
      have hpo := hpk.upd hu3 hp2
      have hX3 := hXr.upd hu3 (fun b hb hm => HXA2.out b hm hb)
      have hap3 : Apart A A3 := by
        intro b hb hm
        rcases hb3 b hm with h | h
        · exact hap.out b h hb
        · have := hS.lt b hb; omega
      have hf3 : Fresh w.heap.size A3 := by
        intro b hb
        rcases hb3 b hb with h | h
        · exact hf2.out b h
        · omega
      have hp33 : p ∉ bof A3 := by
        intro hm
        rcases hb3 p hm with h | h
        · exact hp2 h
        · have := hpk.lt; omega
      have hu03 : Upd [] w w3 := hu.trans hu3 (fun k hk hlt => absurd (hf2.out k hk) (by omega))
      have HA3 := hide hap3
      have HF3 := hide hf3
      clear hap3 hf3
      have em : (10000 : Nat) * 10000 = 100000000 := by omega
      rw [em] at hS3
      clear em ez
      have hL3 : L3 ≤ 1000 := by
        rw [← hS3.1]
        have := wo_len_le (k := 11) (show 100000000 < 18446744073709551616 ^ 11 by decide)
        omega
      go_wp2_with fail
      refine (mul_any w3 A A3 (some ⟨bx, 0, none⟩) (.pointer (some ⟨p, 0, none⟩)) L C L3 C3 1 Cx 100000000 10 _ hSo hS3 hX3 hL3 (by omega) (.inr (by omega))).mono ?_
      rintro e w4 ⟨A4, L4, C4, rfl, hS4, hu4, hb4⟩
      have hSo4 := hS3.upd hu4 (fun b hb hm => HA3.out b hm hb)
      have hpo4 := hpo.upd hu4 hp1
      have hap4 : Apart A3 A4 := by
        intro b hb hm
        rcases hb4 b hm with h | h
        · exact HA3.out b h hb
        · have := hS3.lt b hb; omega
      have hf4 : Fresh w.heap.size A4 := by
        intro b hb
        rcases hb4 b hb with h | h
        · exact hf1.out b h
        · have := hu3.size; omega
      have hp4 : p ∉ bof A4 := by
        intro hm
        rcases hb4 p hm with h | h
        · exact hp1 h
        · have := hpo.lt; omega
      have hu04 : Upd [] w w4 := hu03.trans hu4 (fun k hk hlt => absurd (hf1.out k hk) (by omega))
      have HA4 := hide hap4
      have HF4 := hide hf4
      clear hap4 hf4
      have em : (100000000 : Nat) * 10 = 1000000000 := by omega
      rw [em] at hS4
      clear em
      go_wp2
      go_roundw
      case rel => exact ⟨3, A4, L4, C4, A3, L3, C3, _, by omega, by go_num, rfl, rfl, rfl, hS4, hSo4, HA4.out, HF4.out, HF3, hu04, hpo4, hp4, hp33⟩
      case measure => simp [intOf]
    · have ev : expNN_18_v 3 = 0 := rfl
      have ez : expNN_18_z 3 = 1000000000 := rfl
      rw [ez] at hS
      have hL11 : L ≤ 11 := by
        rw [← hS.1]
        exact wo_len_le (by decide)
      have hbit : bits .and .u64 0 9223372036854775808 = 0 := by kernel_rfl
      have hshl : IntKind.u64.wrap 0 = 0 := by rw [IntKind.wrap_u64]; omega
      go_wp2_with fail
      refine (sqr_any wr A2 A (.pointer (some ⟨p, 0, none⟩)) L2 C2 L C 1000000000 ws2 hS2 hS hL11 hap.out hNr).mono ?_
      rintro e w3 ⟨A3, L3, C3, rfl, hS3, hu3, hb3⟩
      have hSo := hS.upd hu3 (fun b hb hm => hap.out b hm hb)
      have hpo := hpk.upd hu3 hp2
      have hX3 := hXr.upd hu3 (fun b hb hm => HXA2.out b hm hb)
      have hap3 : Apart A A3 := by
        intro b hb hm
        rcases hb3 b hm with h | h
        · exact hap.out b h hb
        · have := hS.lt b hb; omega
      have hf3 : Fresh w.heap.size A3 := by
        intro b hb
        rcases hb3 b hb with h | h
        · exact hf2.out b h
        · omega
      have hp33 : p ∉ bof A3 := by
        intro hm
        rcases hb3 p hm with h | h
        · exact hp2 h
        · have := hpk.lt; omega
      have hu03 : Upd [] w w3 := hu.trans hu3 (fun k hk hlt => absurd (hf2.out k hk) (by omega))
      have HA3 := hide hap3
      have HF3 := hide hf3
      clear hap3 hf3
      have em : (1000000000 : Nat) * 1000000000 = 1000000000000000000 := by omega
      rw [em] at hS3
      clear em ez
      go_wp2
      go_roundw
      case rel => exact ⟨4, A3, L3, C3, A, L, C, _, by omega, by go_num, rfl, rfl, rfl, hS3, hSo, HA3.out, HF3.out, hf1, hu03, hpo, hp33, hp1⟩
      case measure => simp [intOf]
    · have ez : expNN_18_z 4 = N := HNV.out.symm
      rw [ez] at hS
      clear ez
      obtain ⟨g, cs, rfl, hb, hcs, hws⟩ := hS.row (by
        have h1 := hS.1
        have h2 := hS.2.2.1
        have h3 := wo_len_pos (n := N) (by rw [HNV.out]; decide)
        omega)
      have hnb := norm_blk wr g L C cs (wo N) hS.1 hb hws (wo_lt N) hcs hS.2.2.1 (by
        have h1 := hS.1
        have h2 := hS.2.2.1
        have h3 := wo_len_pos (n := N) (by rw [HNV.out]; decide)
        omega) hS.2.2.2.1
      rw [val_wo] at hnb
      have HNB := hide hnb
      clear hnb
      have hpc := hpk.at_ (i := 0) rfl
      go_wp2_with fail
      refine wp_loop_rounds 1 ?_
      rw [rounds_succ]
      go_wp2_with fail
      refine HNB.out.mono ?_
      rintro e w4 ⟨k, rfl, hS9, rfl⟩
      go_wp2
      refine leaves_cons (f := 170) (args := #[.pointer (some ⟨p, 0, none⟩)]) (by simp) (by simp [go_sem]) ?_
      refine (free_d _ .returning _ hpc).mono ?_
      rintro e u' w'' ⟨rfl, rfl, rfl⟩
      refine ⟨_, results_tmp rfl _ _ _, ?_⟩
      refine ⟨_, k, C, rfl, hS9, hu, fun b hb2 => .inr ?_⟩
      exact hf1.out b hb2

def expNN_256_v : Nat → Nat
  | 0 => 0
  | 1 => 0
  | 2 => 0
  | 3 => 0
  | 4 => 0
  | 5 => 0
  | 6 => 0
  | 7 => 0
  | 8 => 0
  | 9 => 0
  | _ => 0
def expNN_256_z : Nat → Nat
  | 0 => 2
  | 1 => 4
  | 2 => 16
  | 3 => 256
  | 4 => 65536
  | 5 => 4294967296
  | 6 => 18446744073709551616
  | 7 => 340282366920938463463374607431768211456
  | 8 => 115792089237316195423570985008687907853269984665640564039457584007913129639936
  | _ => 0

set_option maxRecDepth 100000 in
set_option maxHeartbeats 8000000 in
theorem expNN_256 (w : World) (X Y : Option Addr) (Cx Cy N : Nat) (hNv : N = 2 ^ 256) (hX : NatS w X 1 Cx (wo 2)) (hY : NatS w Y 1 Cy (wo 256)) (hN : Nums w) :
    Calls Tryz.prog 252 #[.slice none 0 0, .pointer none, .slice X 1 Cx, .slice Y 1 Cy, .slice none 0 0, .bool false] w (NatRes w none N) := by
  have HNV := hide hNv
  clear hNv
  obtain ⟨bx, cx, rfl, hbx, hcx, hwx⟩ := hX.row (by have := hX.2.2.1; omega)
  obtain ⟨by', cy, rfl, hby, hcy, hwy⟩ := hY.row (by have := hY.2.2.1; omega)
  have ex : wo 2 = [2] := wo_one (by omega) (by omega)
  have ey : wo 256 = [256] := wo_one (by omega) (by omega)
  have cx0 := hX.cells 0 (by omega)
  have cy0 := hY.cells 0 (by omega)
  rw [ex] at cx0
  rw [ey] at cy0
  simp only [List.getD_cons_zero] at cx0 cy0
  have hax := alias_no w none (some ⟨bx, 0, none⟩) 0 0 1 Cx [] (wo 2) (NatS.nil w) hX (by simp [bof])
  have HAX := hide hax
  clear ex ey hax
  have hv0 : IntKind.u64.wrap 18446744073709551616 = 0 := by rw [IntKind.wrap_u64]; omega
  go_enter_defers Tryz.func252, Tryz.ntmps252
  go_wp2_with fail
  refine HAX.out.mono ?_
  rintro e w1 ⟨rfl, q, rfl⟩
  go_wp2_with fail
  have hay := alias_no (w.drewN q) none (some ⟨by', 0, none⟩) 0 0 1 Cy [] (wo 256) (NatS.nil _) (hY.drewN q) (by simp [bof])
  refine hay.mono ?_
  rintro e w1 ⟨rfl, q2, rfl⟩
  clear hay HAX
  go_wp2_with fail
  refine (getStack_any _).mono ?_
  rintro e w1 ⟨p, rfl, hp, hu1, hpw⟩
  have hu1 := hu1.undrewN
  have hX1 := hX.upd hu1 (by simp)
  have hY1 := hY.upd hu1 (by simp)
  have cx1 := (hu1.cell (p := ⟨bx, 0, none⟩) hbx.lt (by simp)).trans cx0
  have cy1 := (hu1.cell (p := ⟨by', 0, none⟩) hby.lt (by simp)).trans cy0
  go_wp2_with fail
  refine (set_any w1 none (some ⟨bx, 0, none⟩) 0 0 1 Cx 2 [] (NatS.nil _) hX1 (by omega)).mono ?_
  rintro e w2 ⟨A', L', C', rfl, hS2, hu2, hb2⟩
  have cy2 := (hu2.cell (p := ⟨by', 0, none⟩) (lt_of_cell cy1) (by simp [bof])).trans cy1
  go_wp2_with fail
  refine (nlz_lit 256 9 55 (by omega) (by decide) (by omega) _).mono ?_
  rintro e w3 ⟨rfl, rfl⟩
  have hu3 : Upd [] w w2 := hu1.trans hu2 (by simp [bof])
  have hp3 := hp.upd hu2 (by simp [bof])
  clear cx1 cy1 cy2 hX1 hY1 cx0 cy0
  go_wp2_with fail
  go_loopw [0, 15, 19, 21] (fun z v zz i wr => ∃ (j : Nat) (A : Option Addr) (L C : Nat) (A2 : Option Addr) (L2 C2 : Nat) (ws2 : List Nat), j ≤ 8 ∧ i = .int .i64 j ∧ v = .int .u64 (expNN_256_v j) ∧ z = .slice A L C ∧ zz = .slice A2 L2 C2 ∧
      NatS wr A L C (wo (expNN_256_z j)) ∧ NatS wr A2 L2 C2 ws2 ∧ Hid (Apart A2 A) ∧ Hid (Fresh w.heap.size A) ∧ Hid (Fresh w.heap.size A2) ∧ Upd [] w wr ∧ Blk wr p 257 #[.pointer none] ∧ p ∉ bof A ∧ p ∉ bof A2)
    (fun _ _ _ i _ => 8 - (intOf i).toNat)
  case atStart =>
    refine ⟨0, A', L', C', none, 0, 0, [], by omega, rfl, rfl, rfl, rfl, hS2, NatS.nil _, ?_, ?_, ?_, hu3, hp3, ?_, by simp [bof]⟩
    · show Apart _ _; intro b hb; simp [bof] at hb
    · show Fresh _ _
      intro b hb
      rcases hb2 b hb with h | h
      · simp [bof] at h
      · have := hu1.size; omega
    · show Fresh _ _; intro b hb; simp [bof] at hb
    · intro hm
      rcases hb2 p hm with h | h
      · simp [bof] at h
      · have := hp.lt; omega
  case round =>
    clear hS2 hu3 hp3 hp hu1 hu2 hb2
    obtain ⟨j, A, L, C, A2, L2, C2, ws2, hj, rfl, rfl, rfl, rfl, hS, hS2, hap, hf1, hf2, hu, hpk, hp1, hp2⟩ := hrel
    have hNr := hN.upd hu (by simp)
    have hXr := hX.upd hu (by simp)
    have hxA : Apart A (some ⟨bx, 0, none⟩) := by
      intro b hb hm
      have h1 := hf1.out b hb
      simp [bof] at hm
      subst hm
      have := hbx.lt
      omega
    have hxA2 : Apart A2 (some ⟨bx, 0, none⟩) := by
      intro b hb hm
      have h1 := hf2.out b hb
      simp [bof] at hm
      subst hm
      have := hbx.lt
      omega
    have HXA := hide hxA
    have HXA2 := hide hxA2
    clear hxA hxA2
    have hsz := hu.size
    rcases (by omega : j = 0 ∨ j = 1 ∨ j = 2 ∨ j = 3 ∨ j = 4 ∨ j = 5 ∨ j = 6 ∨ j = 7 ∨ j = 8) with rfl | rfl | rfl | rfl | rfl | rfl | rfl | rfl | rfl
    · have ev : expNN_256_v 0 = 0 := rfl
      have ez : expNN_256_z 0 = 2 := rfl
      rw [ez] at hS
      have hL11 : L ≤ 11 := by
        rw [← hS.1]
        exact wo_len_le (by decide)
      have hbit : bits .and .u64 0 9223372036854775808 = 0 := by kernel_rfl
      have hshl : IntKind.u64.wrap 0 = 0 := by rw [IntKind.wrap_u64]; omega
      go_wp2_with fail
      refine (sqr_any wr A2 A (.pointer (some ⟨p, 0, none⟩)) L2 C2 L C 2 ws2 hS2 hS hL11 hap.out hNr).mono ?_
      rintro e w3 ⟨A3, L3, C3, rfl, hS3, hu3, hb3⟩
      have hSo := hS.upd hu3 (fun b hb hm => hap.out b hm hb)
      have hpo := hpk.upd hu3 hp2
      have hX3 := hXr.upd hu3 (fun b hb hm => HXA2.out b hm hb)
      have hap3 : Apart A A3 := by
        intro b hb hm
        rcases hb3 b hm with h | h
        · exact hap.out b h hb
        · have := hS.lt b hb; omega
      have hf3 : Fresh w.heap.size A3 := by
        intro b hb
        rcases hb3 b hb with h | h
        · exact hf2.out b h
        · omega
      have hp33 : p ∉ bof A3 := by
        intro hm
        rcases hb3 p hm with h | h
        · exact hp2 h
        · have := hpk.lt; omega
      have hu03 : Upd [] w w3 := hu.trans hu3 (fun k hk hlt => absurd (hf2.out k hk) (by omega))
      have HA3 := hide hap3
      have HF3 := hide hf3
      clear hap3 hf3
      have em : (2 : Nat) * 2 = 4 := by omega
      rw [em] at hS3
      clear em ez
      go_wp2
      go_roundw
      case rel => exact ⟨1, A3, L3, C3, A, L, C, _, by omega, by go_num, rfl, rfl, rfl, hS3, hSo, HA3.out, HF3.out, hf1, hu03, hpo, hp33, hp1⟩
      case measure => simp [intOf]
    · have ev : expNN_256_v 1 = 0 := rfl
      have ez : expNN_256_z 1 = 4 := rfl
      rw [ez] at hS
      have hL11 : L ≤ 11 := by
        rw [← hS.1]
        exact wo_len_le (by decide)
      have hbit : bits .and .u64 0 9223372036854775808 = 0 := by kernel_rfl
      have hshl : IntKind.u64.wrap 0 = 0 := by rw [IntKind.wrap_u64]; omega
      go_wp2_with fail
      refine (sqr_any wr A2 A (.pointer (some ⟨p, 0, none⟩)) L2 C2 L C 4 ws2 hS2 hS hL11 hap.out hNr).mono ?_
      rintro e w3 ⟨A3, L3, C3, rfl, hS3, hu3, hb3⟩
      have hSo := hS.upd hu3 (fun b hb hm => hap.out b hm hb)
      have hpo := hpk.upd hu3 hp2
      have hX3 := hXr.upd hu3 (fun b hb hm => HXA2.out b hm hb)
      have hap3 : Apart A A3 := by
        intro b hb hm
        rcases hb3 b hm with h | h
        · exact hap.out b h hb
        · have := hS.lt b hb; omega
      have hf3 : Fresh w.heap.size A3 := by
        intro b hb
        rcases hb3 b hb with h | h
        · exact hf2.out b h
        · omega
      have hp33 : p ∉ bof A3 := by
        intro hm
        rcases hb3 p hm with h | h
        · exact hp2 h
        · have := hpk.lt; omega
      have hu03 : Upd [] w w3 := hu.trans hu3 (fun k hk hlt => absurd (hf2.out k hk) (by omega))
      have HA3 := hide hap3
      have HF3 := hide hf3
      clear hap3 hf3
      have em : (4 : Nat) * 4 = 16 := by omega
      rw [em] at hS3
      clear em ez
      go_wp2
      go_roundw
      case rel => exact ⟨2, A3, L3, C3, A, L, C, _, by omega, by go_num, rfl, rfl, rfl, hS3, hSo, HA3.out, HF3.out, hf1, hu03, hpo, hp33, hp1⟩
      case measure => simp [intOf]
    · have ev : expNN_256_v 2 = 0 := rfl
      have ez : expNN_256_z 2 = 16 := rfl
      rw [ez] at hS
      have hL11 : L ≤ 11 := by
        rw [← hS.1]
        exact wo_len_le (by decide)
      have hbit : bits .and .u64 0 9223372036854775808 = 0 := by kernel_rfl
      have hshl : IntKind.u64.wrap 0 = 0 := by rw [IntKind.wrap_u64]; omega
      go_wp2_with fail
      refine (sqr_any wr A2 A (.pointer (some ⟨p, 0, none⟩)) L2 C2 L C 16 ws2 hS2 hS hL11 hap.out hNr).mono ?_
      rintro e w3 ⟨A3, L3, C3, rfl, hS3, hu3, hb3⟩
      have hSo := hS.upd hu3 (fun b hb hm => hap.out b hm hb)
      have hpo := hpk.upd hu3 hp2
      have hX3 := hXr.upd hu3 (fun b hb hm => HXA2.out b hm hb)
      have hap3 : Apart A A3 := by
        intro b hb hm
        rcases hb3 b hm with h | h
        · exact hap.out b h hb
        · have := hS.lt b hb; omega
      have hf3 : Fresh w.heap.size A3 := by
        intro b hb
        rcases hb3 b hb with h | h
        · exact hf2.out b h
        · omega
      have hp33 : p ∉ bof A3 := by
        intro hm
        rcases hb3 p hm with h | h
        · exact hp2 h
        · have := hpk.lt; omega
      have hu03 : Upd [] w w3 := hu.trans hu3 (fun k hk hlt => absurd (hf2.out k hk) (by omega))
      have HA3 := hide hap3
      have HF3 := hide hf3
      clear hap3 hf3
      have em : (16 : Nat) * 16 = 256 := by omega
      rw [em] at hS3
      clear em ez
      go_wp2
      go_roundw
      case rel => exact ⟨3, A3, L3, C3, A, L, C, _, by omega, by go_num, rfl, rfl, rfl, hS3, hSo, HA3.out, HF3.out, hf1, hu03, hpo, hp33, hp1⟩
      case measure => simp [intOf]
    · have ev : expNN_256_v 3 = 0 := rfl
      have ez : expNN_256_z 3 = 256 := rfl
      rw [ez] at hS
      have hL11 : L ≤ 11 := by
        rw [← hS.1]
        exact wo_len_le (by decide)
      have hbit : bits .and .u64 0 9223372036854775808 = 0 := by kernel_rfl
      have hshl : IntKind.u64.wrap 0 = 0 := by rw [IntKind.wrap_u64]; omega
      go_wp2_with fail
      refine (sqr_any wr A2 A (.pointer (some ⟨p, 0, none⟩)) L2 C2 L C 256 ws2 hS2 hS hL11 hap.out hNr).mono ?_
      rintro e w3 ⟨A3, L3, C3, rfl, hS3, hu3, hb3⟩
      have hSo := hS.upd hu3 (fun b hb hm => hap.out b hm hb)
      have hpo := hpk.upd hu3 hp2
      have hX3 := hXr.upd hu3 (fun b hb hm => HXA2.out b hm hb)
      have hap3 : Apart A A3 := by
        intro b hb hm
        rcases hb3 b hm with h | h
        · exact hap.out b h hb
        · have := hS.lt b hb; omega
      have hf3 : Fresh w.heap.size A3 := by
        intro b hb
        rcases hb3 b hb with h | h
        · exact hf2.out b h
        · omega
      have hp33 : p ∉ bof A3 := by
        intro hm
        rcases hb3 p hm with h | h
        · exact hp2 h
        · have := hpk.lt; omega
      have hu03 : Upd [] w w3 := hu.trans hu3 (fun k hk hlt => absurd (hf2.out k hk) (by omega))
      have HA3 := hide hap3
      have HF3 := hide hf3
      clear hap3 hf3
      have em : (256 : Nat) * 256 = 65536 := by omega
      rw [em] at hS3
      clear em ez
      go_wp2
      go_roundw
      case rel => exact ⟨4, A3, L3, C3, A, L, C, _, by omega, by go_num, rfl, rfl, rfl, hS3, hSo, HA3.out, HF3.out, hf1, hu03, hpo, hp33, hp1⟩
      case measure => simp [intOf]
    · have ev : expNN_256_v 4 = 0 := rfl
      have ez : expNN_256_z 4 = 65536 := rfl
      rw [ez] at hS
      have hL11 : L ≤ 11 := by
        rw [← hS.1]
        exact wo_len_le (by decide)
      have hbit : bits .and .u64 0 9223372036854775808 = 0 := by kernel_rfl
      have hshl : IntKind.u64.wrap 0 = 0 := by rw [IntKind.wrap_u64]; omega
      go_wp2_with fail
      refine (sqr_any wr A2 A (.pointer (some ⟨p, 0, none⟩)) L2 C2 L C 65536 ws2 hS2 hS hL11 hap.out hNr).mono ?_
      rintro e w3 ⟨A3, L3, C3, rfl, hS3, hu3, hb3⟩
      have hSo := hS.upd hu3 (fun b hb hm => hap.out b hm hb)
      have hpo := hpk.upd hu3 hp2
      have hX3 := hXr.upd hu3 (fun b hb hm => HXA2.out b hm hb)
      have hap3 : Apart A A3 := by
        intro b hb hm
        rcases hb3 b hm with h | h
        · exact hap.out b h hb
        · have := hS.lt b hb; omega
      have hf3 : Fresh w.heap.size A3 := by
        intro b hb
        rcases hb3 b hb with h | h
        · exact hf2.out b h
        · omega
      have hp33 : p ∉ bof A3 := by
        intro hm
        rcases hb3 p hm with h | h
        · exact hp2 h
        · have := hpk.lt; omega
      have hu03 : Upd [] w w3 := hu.trans hu3 (fun k hk hlt => absurd (hf2.out k hk) (by omega))
      have HA3 := hide hap3
      have HF3 := hide hf3
      clear hap3 hf3
      have em : (65536 : Nat) * 65536 = 4294967296 := by omega
      rw [em] at hS3
      clear em ez
      go_wp2
      go_roundw
      case rel => exact ⟨5, A3, L3, C3, A, L, C, _, by omega, by go_num, rfl, rfl, rfl, hS3, hSo, HA3.out, HF3.out, hf1, hu03, hpo, hp33, hp1⟩
      case measure => simp [intOf]
    · have ev : expNN_256_v 5 = 0 := rfl
      have ez : expNN_256_z 5 = 4294967296 := rfl
      rw [ez] at hS
      have hL11 : L ≤ 11 := by
        rw [← hS.1]
        exact wo_len_le (by decide)
      have hbit : bits .and .u64 0 9223372036854775808 = 0 := by kernel_rfl
      have hshl : IntKind.u64.wrap 0 = 0 := by rw [IntKind.wrap_u64]; omega
      go_wp2_with fail
      refine (sqr_any wr A2 A (.pointer (some ⟨p, 0, none⟩)) L2 C2 L C 4294967296 ws2 hS2 hS hL11 hap.out hNr).mono ?_
      rintro e w3 ⟨A3, L3, C3, rfl, hS3, hu3, hb3⟩
      have hSo := hS.upd hu3 (fun b hb hm => hap.out b hm hb)
      have hpo := hpk.upd hu3 hp2
      have hX3 := hXr.upd hu3 (fun b hb hm => HXA2.out b hm hb)
      have hap3 : Apart A A3 := by
        intro b hb hm
        rcases hb3 b hm with h | h
        · exact hap.out b h hb
        · have := hS.lt b hb; omega
      have hf3 : Fresh w.heap.size A3 := by
        intro b hb
        rcases hb3 b hb with h | h
        · exact hf2.out b h
        · omega
      have hp33 : p ∉ bof A3 := by
        intro hm
        rcases hb3 p hm with h | h
        · exact hp2 h
        · have := hpk.lt; omega
      have hu03 : Upd [] w w3 := hu.trans hu3 (fun k hk hlt => absurd (hf2.out k hk) (by omega))
      have HA3 := hide hap3
      have HF3 := hide hf3
      clear hap3 hf3
      have em : (4294967296 : Nat) * 4294967296 = 18446744073709551616 := by omega
      rw [em] at hS3
      clear em ez
      go_wp2
      go_roundw
      case rel => exact ⟨6, A3, L3, C3, A, L, C, _, by omega, by go_num, rfl, rfl, rfl, hS3, hSo, HA3.out, HF3.out, hf1, hu03, hpo, hp33, hp1⟩
      case measure => simp [intOf]
    · have ev : expNN_256_v 6 = 0 := rfl
      have ez : expNN_256_z 6 = 18446744073709551616 := rfl
      rw [ez] at hS
      have hL11 : L ≤ 11 := by
        rw [← hS.1]
        exact wo_len_le (by decide)
      have hbit : bits .and .u64 0 9223372036854775808 = 0 := by kernel_rfl
      have hshl : IntKind.u64.wrap 0 = 0 := by rw [IntKind.wrap_u64]; omega
      go_wp2_with fail
      refine (sqr_any wr A2 A (.pointer (some ⟨p, 0, none⟩)) L2 C2 L C 18446744073709551616 ws2 hS2 hS hL11 hap.out hNr).mono ?_
      rintro e w3 ⟨A3, L3, C3, rfl, hS3, hu3, hb3⟩
      have hSo := hS.upd hu3 (fun b hb hm => hap.out b hm hb)
      have hpo := hpk.upd hu3 hp2
      have hX3 := hXr.upd hu3 (fun b hb hm => HXA2.out b hm hb)
      have hap3 : Apart A A3 := by
        intro b hb hm
        rcases hb3 b hm with h | h
        · exact hap.out b h hb
        · have := hS.lt b hb; omega
      have hf3 : Fresh w.heap.size A3 := by
        intro b hb
        rcases hb3 b hb with h | h
        · exact hf2.out b h
        · omega
      have hp33 : p ∉ bof A3 := by
        intro hm
        rcases hb3 p hm with h | h
        · exact hp2 h
        · have := hpk.lt; omega
      have hu03 : Upd [] w w3 := hu.trans hu3 (fun k hk hlt => absurd (hf2.out k hk) (by omega))
      have HA3 := hide hap3
      have HF3 := hide hf3
      clear hap3 hf3
      have em : (18446744073709551616 : Nat) * 18446744073709551616 = 340282366920938463463374607431768211456 := by omega
      rw [em] at hS3
      clear em ez
      go_wp2
      go_roundw
      case rel => exact ⟨7, A3, L3, C3, A, L, C, _, by omega, by go_num, rfl, rfl, rfl, hS3, hSo, HA3.out, HF3.out, hf1, hu03, hpo, hp33, hp1⟩
      case measure => simp [intOf]
    · have ev : expNN_256_v 7 = 0 := rfl
      have ez : expNN_256_z 7 = 340282366920938463463374607431768211456 := rfl
      rw [ez] at hS
      have hL11 : L ≤ 11 := by
        rw [← hS.1]
        exact wo_len_le (by decide)
      have hbit : bits .and .u64 0 9223372036854775808 = 0 := by kernel_rfl
      have hshl : IntKind.u64.wrap 0 = 0 := by rw [IntKind.wrap_u64]; omega
      go_wp2_with fail
      refine (sqr_any wr A2 A (.pointer (some ⟨p, 0, none⟩)) L2 C2 L C 340282366920938463463374607431768211456 ws2 hS2 hS hL11 hap.out hNr).mono ?_
      rintro e w3 ⟨A3, L3, C3, rfl, hS3, hu3, hb3⟩
      have hSo := hS.upd hu3 (fun b hb hm => hap.out b hm hb)
      have hpo := hpk.upd hu3 hp2
      have hX3 := hXr.upd hu3 (fun b hb hm => HXA2.out b hm hb)
      have hap3 : Apart A A3 := by
        intro b hb hm
        rcases hb3 b hm with h | h
        · exact hap.out b h hb
        · have := hS.lt b hb; omega
      have hf3 : Fresh w.heap.size A3 := by
        intro b hb
        rcases hb3 b hb with h | h
        · exact hf2.out b h
        · omega
      have hp33 : p ∉ bof A3 := by
        intro hm
        rcases hb3 p hm with h | h
        · exact hp2 h
        · have := hpk.lt; omega
      have hu03 : Upd [] w w3 := hu.trans hu3 (fun k hk hlt => absurd (hf2.out k hk) (by omega))
      have HA3 := hide hap3
      have HF3 := hide hf3
      clear hap3 hf3
      have em : (340282366920938463463374607431768211456 : Nat) * 340282366920938463463374607431768211456 = 115792089237316195423570985008687907853269984665640564039457584007913129639936 := by omega
      rw [em] at hS3
      clear em ez
      go_wp2
      go_roundw
      case rel => exact ⟨8, A3, L3, C3, A, L, C, _, by omega, by go_num, rfl, rfl, rfl, hS3, hSo, HA3.out, HF3.out, hf1, hu03, hpo, hp33, hp1⟩
      case measure => simp [intOf]
    · have ez : expNN_256_z 8 = N := HNV.out.symm
      rw [ez] at hS
      clear ez
      obtain ⟨g, cs, rfl, hb, hcs, hws⟩ := hS.row (by
        have h1 := hS.1
        have h2 := hS.2.2.1
        have h3 := wo_len_pos (n := N) (by rw [HNV.out]; decide)
        omega)
      have hnb := norm_blk wr g L C cs (wo N) hS.1 hb hws (wo_lt N) hcs hS.2.2.1 (by
        have h1 := hS.1
        have h2 := hS.2.2.1
        have h3 := wo_len_pos (n := N) (by rw [HNV.out]; decide)
        omega) hS.2.2.2.1
      rw [val_wo] at hnb
      have HNB := hide hnb
      clear hnb
      have hpc := hpk.at_ (i := 0) rfl
      go_wp2_with fail
      refine wp_loop_rounds 1 ?_
      rw [rounds_succ]
      go_wp2_with fail
      refine HNB.out.mono ?_
      rintro e w4 ⟨k, rfl, hS9, rfl⟩
      go_wp2
      refine leaves_cons (f := 170) (args := #[.pointer (some ⟨p, 0, none⟩)]) (by simp) (by simp [go_sem]) ?_
      refine (free_d _ .returning _ hpc).mono ?_
      rintro e u' w'' ⟨rfl, rfl, rfl⟩
      refine ⟨_, results_tmp rfl _ _ _, ?_⟩
      refine ⟨_, k, C, rfl, hS9, hu, fun b hb2 => .inr ?_⟩
      exact hf1.out b hb2

end Go.Proofs.YtnajekpckbfcdaaGreatDoor

namespace Go.Proofs.YtnajekpckbfcdaaGreatDoor
open Go.RowKit

theorem lz64_lit (v n m : Nat) (hv : v < 18446744073709551616) (h : Lib.bitLen v = n) (hn : n + m = 64) (w : World) :
    Calls Tryz.prog 297 #[.int .u64 v] w fun e w' => e = .returned (.int .i64 m) ∧ w = w' := by
  have hc := Tryz.bits_LeadingZeros64 (v : Int) w (by omega) (by omega)
  rw [Int.toNat_natCast, h, show (64 : Int) - (n : Int) = (m : Int) from by omega] at hc
  exact hc.mono fun _ _ ⟨a, b⟩ => ⟨a, b.symm⟩

set_option maxRecDepth 100000 in
theorem div64_18 (w : World) : Calls Tryz.prog 283 #[.int .u64 2446744073709551615, .int .u64 18446744073709551615, .int .u64 16000000000000000000] w fun e w' => e = .returned (.tuple #[.int .u64 2820903858849102350, .int .u64 7374607431768211455]) ∧ w = w' := by
  have b0 : bits .and .u64 16000000000000000000 4294967295 = 1983905792 := by kernel_rfl
  have b1 : bits .or .u64 2446744073709551615 0 = 2446744073709551615 := by kernel_rfl
  have b2 : bits .and .u64 18446744073709551615 4294967295 = 4294967295 := by kernel_rfl
  have f0 : IntKind.u64.wrap (10508685778264337589248983040) = 9925933574429605888 := by rw [IntKind.wrap_u64]; omega
  have f1 : IntKind.u64.wrap (10508685776000000000000000000) = 7661595985180622848 := by rw [IntKind.wrap_u64]; omega
  have f2 : IntKind.u64.wrap (9725255911374607427473244160) = 6539226654646992896 := by rw [IntKind.wrap_u64]; omega
  have f3 : IntKind.u64.wrap (9725255904000000000000000000) = 17611363300883300352 := by rw [IntKind.wrap_u64]; omega
  have f4 : IntKind.u64.wrap (-11072136641941340161) = 7374607431768211455 := by rw [IntKind.wrap_u64]; omega
  go_enter Tryz.func283, Tryz.ntmps283
  go_wp2_with fail
  refine (lz64_lit 16000000000000000000 64 0 (by omega) (by decide) (by omega) _).mono ?_
  rintro e w1 ⟨rfl, rfl⟩
  go_wp2_with fail
  refine wp_loop_rounds 1 ?_
  rw [rounds_succ]
  go_wp2_with fail
  go_wp2_with fail
  refine wp_loop_rounds 1 ?_
  rw [rounds_succ]
  go_wp2_with fail
  go_wp2
  go_ret2
  exact ⟨rfl, rfl⟩

end Go.Proofs.YtnajekpckbfcdaaGreatDoor
