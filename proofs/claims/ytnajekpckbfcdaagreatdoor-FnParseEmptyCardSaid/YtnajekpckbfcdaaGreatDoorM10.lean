/-
  Int: Add, Sub.
-/
import Derived.Test.YtnajekpckbfcdaaGreatDoorM07
set_option linter.unusedVariables false
set_option linter.unusedSimpArgs false
namespace Go.Proofs.YtnajekpckbfcdaaGreatDoor
open Go.RowKit

/-- What Add and Sub hand back, ahead of the signs. -/
def CoreRes (w : World) (p : Nat) (Z : Option Addr) (s : Bool) (m : Nat) (e : Ending) (w' : World) : Prop :=
  ∃ A L C, e = .returned (.pointer (some ⟨p, 0, none⟩)) ∧ Blk w' p 133 #[.bool (decide (m ≠ 0) && s), .slice A L C] ∧ NatS w' A L C (wo m) ∧ Upd (p :: bof Z) w w' ∧ ∀ b ∈ bof A, b ∈ bof Z ∨ w.heap.size ≤ b
theorem CoreRes.int {w w' : World} {p : Nat} {Z : Option Addr} {s : Bool} {m : Nat} {e : Ending} {z : Int} (h : CoreRes w p Z s m e w') (hm : z.natAbs = m) (hs : (decide (m ≠ 0) && s) = decide (z < 0)) : IntRes w p Z z e w' := by
  obtain ⟨A, L, C, he, hb, hS, hu, hA⟩ := h
  exact ⟨A, he, ⟨L, C, by rw [← hs]; exact hb, by rw [hm]; exact hS⟩, hu, hA⟩

set_option maxHeartbeats 8000000 in
theorem Sub_fresh_sub (w : World) (pz px py : Nat) (nz : Bool) (Z X Y : Option Addr) (Lz Cz Lx Cx Ly Cy a b : Nat) (wz : List Nat) (na nb : Bool) (hzx : pz ≠ px) (hzy : pz ≠ py) (hz : Blk w pz 133 #[.bool nz, .slice Z Lz Cz]) (hZ : NatS w Z Lz Cz wz)
    (hxb : Blk w px 133 #[.bool na, .slice X Lx Cx]) (hX : NatS w X Lx Cx (wo a)) (hyb : Blk w py 133 #[.bool nb, .slice Y Ly Cy]) (hY : NatS w Y Ly Cy (wo b)) (hLx : Lx ≤ 100) (hLy : Ly ≤ 100) (ht : na = nb) (hab : b ≤ a) :
    Calls Tryz.prog 165 #[.pointer (some ⟨pz, 0, none⟩), .pointer (some ⟨px, 0, none⟩), .pointer (some ⟨py, 0, none⟩)] w (CoreRes w pz Z (na) (a - b)) := by
  subst ht
  have cx0 := hxb.fst
  have cx1 := hxb.snd
  have cy0 := hyb.fst
  have cy1 := hyb.snd
  have cz1 := hz.snd
  have hpz := hZ.not_mem hz (by decide)
  have hop := fun q => sub_any ((w.drewN q).drew) Z X Y Lz Cz Lx Cx Ly Cy a b wz (hZ.drewN q).drew (hX.drewN q).drew (hY.drewN q).drew (by omega) hab
  have HC := hide hop
  clear hop
  have hcmp := fun q => cmp_any (w.drewN q) X Y Lx Cx Ly Cy a b (hX.drewN q) (hY.drewN q) (by omega) (by omega)
  obtain ⟨nc, hnc⟩ : ∃ nc, ncmp a b = nc := ⟨_, rfl⟩
  have hnc2 : 0 ≤ nc := by
    rw [← hnc]; unfold ncmp; split <;> (try split) <;> omega
  rw [hnc] at hcmp
  have HCM := hide hcmp
  clear hcmp hnc
  go_enter Tryz.func165, Tryz.ntmps165
  go_wp2_with fail
  go_quiet (fail)
  go_wp2_with fail
  have hu0 : Upd [] w (w.drewN nq) := (Upd.refl _ _).drewN nq
  have HC1 := hide (HC.out nq)
  replace hxb := hxb.drewN nq
  replace hyb := hyb.drewN nq
  replace cx0 := hxb.fst
  replace cx1 := hxb.snd
  replace cy1 := hyb.snd
  replace hz := hz.drewN nq
  replace cz1 := hz.snd
  have HCM1 : Hid (∀ r, Calls Tryz.prog 104 #[.slice X Lx Cx, .slice Y Ly Cy] ((w.drewN nq).drewN r) fun e w' => e = .returned (.int .i64 nc) ∧ ∃ n, w' = ((w.drewN nq).drewN r).drewN n) := fun r => by rw [World.drewN_drewN]; exact HCM.out _
  have HC9 := fun r => hide (HC.out (nq + r))
  simp only [← World.drewN_drewN] at HC9
  clear HCM HC1
  clear HC cy0 hX hY hZ
  generalize w.drewN nq = w1 at HC9 HCM1 hu0 hxb hyb cx0 cx1 cy1 hz cz1 ⊢
  go_quiet ((go_at_call 104; exact Calls.quiet_of (HCM1.out _)))
  go_wp2_with fail
  have hu9 := hu0.drewN nq
  have HC1 := HC9 nq
  replace hxb := hxb.drewN nq
  replace hyb := hyb.drewN nq
  replace cx0 := hxb.fst
  replace cx1 := hxb.snd
  replace cy1 := hyb.snd
  replace hz := hz.drewN nq
  replace cz1 := hz.snd
  clear HC9 HCM1 hu0
  generalize w1.drewN nq = w2 at HC1 hu9 hxb hyb cx0 cx1 cy1 hz cz1 ⊢
  go_region_with (go_at_call 105; refine HC1.out.mono ?_; rintro e w5 ⟨A, L, C, rfl, hS, hu, hA⟩; have hz2 := hz.drew.upd hu hpz; have cz2 := hz2.snd; have fz2 := hz2.frozen 1)
  all_goals (
    have hz3 := hz2.put1 (.slice A L C)
    have hS3 := hS.setCell (p := ⟨pz, 1, none⟩) (hS.not_mem hz2 (by decide)) (.slice A L C)
    have hu3 : Upd (pz :: bof Z) w (w5.setCell ⟨pz, 1, none⟩ (.slice A L C)) := ((Upd.mono (S' := pz :: bof Z) hu9.drew (by simp)).trans hu (fun k hk _ => List.mem_cons_of_mem _ hk)).setCell (by simp) _
    have hA3 : ∀ b ∈ bof A, b ∈ bof Z ∨ w.heap.size ≤ b := fun b hb => (hA b hb).imp id (fun h => Nat.le_trans hu9.size h)
    clear cz2 fz2
    generalize w5.setCell ⟨pz, 1, none⟩ (.slice A L C) = w3 at hz3 hS3 hu3 ⊢
    clear hz2 hS hu HC1 cx0 cx1 cy1 cz1 hA hu9
    have cz4 := hz3.snd
    have fz3 := hz3.frozen 0
    have cz3 := hz3.fst
    have hnm := hS3.not_mem hz3 (by decide)
    have HA3 := hide hA3
    clear hA3
    by_cases h0 : a - b = 0
    · have hL : L = 0 := by rw [← hS3.1, h0]; simp [wo_zero]
      subst hL
      have t1 : ¬ (0 : Int) < ((0 : Nat) : Int) := by omega
      have H0 := hide h0
      clear h0
      go_wp2
      go_ret
      refine ⟨A, 0, C, rfl, ?_, hS3.setCell hnm _, hu3.setCell (by simp) _, HA3.out⟩
      rw [decide_eq_false (by rw [H0.out]; simp)]
      exact hz3.put0 _
    · have hL : 0 < L := by rw [← hS3.1]; exact wo_len_pos h0
      have t1 : (0 : Int) < (L : Int) := by omega
      have H0 := hide h0
      clear h0
      go_wp2
      go_ret
      refine ⟨A, L, C, rfl, ?_, hS3.setCell hnm _, hu3.setCell (by simp) _, HA3.out⟩
      rw [decide_eq_true H0.out, Bool.true_and]
      exact hz3.put0 _)

/-- Sub of numbers that are not below 0, the second one not greater, into another Int. -/
theorem Sub_nat (w : World) (pz px py : Nat) (nz : Bool) (Z X Y : Option Addr) (Lz Cz : Nat) (wz : List Nat) (a b : Nat) (hab : b ≤ a) (hzx : pz ≠ px) (hzy : pz ≠ py) (hz : Blk w pz 133 #[.bool nz, .slice Z Lz Cz]) (hZ : NatS w Z Lz Cz wz)
    (hx : IntV w px X a) (hy : IntV w py Y b) (ha : Sm a) (hb : Sm b) :
    Calls Tryz.prog 165 #[.pointer (some ⟨pz, 0, none⟩), .pointer (some ⟨px, 0, none⟩), .pointer (some ⟨py, 0, none⟩)] w (IntRes w pz Z ((a - b : Nat) : Int)) := by
  obtain ⟨Lx, Cx, hxb, hX⟩ := hx
  obtain ⟨Ly, Cy, hyb, hY⟩ := hy
  have hLx := ha.len hX
  have hLy := hb.len hY
  rw [decide_eq_false (by omega)] at hxb hyb
  rw [Int.natAbs_natCast] at hX hY
  exact (Sub_fresh_sub w pz px py nz Z X Y Lz Cz Lx Cx Ly Cy a b wz false false hzx hzy hz hZ hxb hX hyb hY hLx hLy rfl hab).mono fun e w' h => h.int (Int.natAbs_natCast _) (by rw [Bool.and_false, decide_eq_false (by omega)])

end Go.Proofs.YtnajekpckbfcdaaGreatDoor
